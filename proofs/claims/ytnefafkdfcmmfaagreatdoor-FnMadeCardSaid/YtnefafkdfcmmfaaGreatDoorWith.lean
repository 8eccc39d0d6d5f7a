/- Options, and what they do: slices.Clone, With.., and each closure as an option. -/
import Derived.Test.YtnefafkdfcmmfaaGreatDoorRight
import Derived.Test.YtnefafkdfcmmfaaGreatDoorShelf
namespace Go.Proofs.YtnefafkdfcmmfaaGreatDoor
open Go.RowKit

def ClonePost (s : Sl) (w : World) (e : Ending) (w' : World) : Prop := ∃ s' : Sl, e = .returned s'.val ∧ s'.xs = s.xs ∧ s'.n = s.n ∧ s'.ok w' ∧ Ext w w'
theorem clone_any (s : Sl) (w : World) (h : s.ok w) (hn : s.n ≤ 20) : Calls Tryz.prog 37 #[s.val] w (ClonePost s w) := by
  obtain ⟨A, n, c, xs⟩ := s
  obtain ⟨⟨hl, _, hr⟩, hs⟩ := h
  simp only at hl hr hs hn
  cases A with
  | none =>
    have h0 : xs = [] := by
      cases xs with
      | nil => rfl
      | cons a t => obtain ⟨ad, e, _⟩ := hr 0 (by simp); cases e
    subst h0
    refine (Tryz.slices_Clone_string_nil n c w).mono ?_
    rintro e w' ⟨rfl, rfl⟩
    have hn0 : n = 0 := by simpa using hl.symm
    subst hn0
    exact ⟨⟨none, 0, 0, []⟩, rfl, rfl, rfl, ⟨⟨rfl, by simp, fun j hj => by simp at hj⟩, by simp⟩, Ext.refl _⟩
  | some a =>
    rcases Nat.eq_zero_or_pos n with h0 | h0
    · subst h0
      have hx : xs = [] := List.eq_nil_of_length_eq_zero hl
      subst hx
      refine (Tryz.slices_Clone_string_zero a c w).mono ?_
      rintro e w' ⟨v', rfl, hown, _, hb⟩
      obtain ⟨A', c', rfl, hrd⟩ := own_rdS (xs := []) (by simpa using hown) (by omega)
      exact ⟨⟨A', 0, c', []⟩, rfl, rfl, rfl, ⟨hrd, by simp⟩, hb⟩
    · have hspot : a.spot = none := by
        obtain ⟨ad, e, hc⟩ := hr 0 (by omega)
        injection e with e
        subst e
        have h1 : a.add 0 = a := rfl
        rw [h1] at hc
        unfold World.cell? at hc
        cases hsp : a.spot with
        | none => rfl
        | some q => rw [hsp] at hc; split at hc <;> simp at hc
      obtain ⟨b, off, sp⟩ := a
      simp only at hspot
      subst hspot
      refine (Tryz.slices_Clone_string b off n c xs w (by omega) (by omega) (fun j hj => ?_)).mono ?_
      · obtain ⟨ad, e, hc⟩ := hr j hj
        injection e with e
        subst e
        have h1 : (Addr.add ⟨b, off, none⟩ j) = ⟨b, off + j, none⟩ := by by_cases h : j = 0 <;> simp [Addr.add, h]
        rw [h1] at hc
        rw [hc]; simp [List.getD, List.getElem?_eq_getElem hj]
      · rintro e w' ⟨v', rfl, hown, _, hb⟩
        obtain ⟨A', c', rfl, hrd⟩ := own_rdS (xs := xs) (n := n) (by rw [List.take_of_length_le (by omega)] at hown; exact hown) (by omega)
        exact ⟨⟨A', n, c', xs⟩, rfl, rfl, rfl, ⟨hrd, hs⟩, hb⟩
/-- What With.. returns: the closure over a box with the slice. -/
def WithPost (C : FuncId) (s : Sl) (w : World) (e : Ending) (w' : World) : Prop := ∃ b, e = .returned (.func (.func C) #[] #[.pointer (some ⟨b, 0, none⟩)]) ∧ Blk w' b 22 #[s.val] ∧ Ext w w'

theorem call_o_dns (args : Array Value) (w : World) : (callFunc 71 args).run Tryz.prog w = .ok (.enter 71 args) w := by
  unfold callFunc
  simp [go_sem, Tryz.func71, Tryz.f71]
theorem with_dns (s : Sl) (w : World) : Calls Tryz.prog 47 #[s.val] w (WithPost 71 s w) := by
  obtain ⟨A, n, c, xs⟩ := s
  go_enter Tryz.func47, Tryz.ntmps47
  go_wp2
  go_ret
  exact ⟨w.heap.size, rfl, Blk.new _ _ _, (Ext.refl w).alloc _⟩
theorem call_o_ndns (args : Array Value) (w : World) : (callFunc 73 args).run Tryz.prog w = .ok (.enter 73 args) w := by
  unfold callFunc
  simp [go_sem, Tryz.func73, Tryz.f73]
theorem with_ndns (s : Sl) (w : World) : Calls Tryz.prog 48 #[s.val] w (WithPost 73 s w) := by
  obtain ⟨A, n, c, xs⟩ := s
  go_enter Tryz.func48, Tryz.ntmps48
  go_wp2
  go_ret
  exact ⟨w.heap.size, rfl, Blk.new _ _ _, (Ext.refl w).alloc _⟩
theorem call_o_ip (args : Array Value) (w : World) : (callFunc 74 args).run Tryz.prog w = .ok (.enter 74 args) w := by
  unfold callFunc
  simp [go_sem, Tryz.func74, Tryz.f74]
theorem with_ip (s : Sl) (w : World) : Calls Tryz.prog 49 #[s.val] w (WithPost 74 s w) := by
  obtain ⟨A, n, c, xs⟩ := s
  go_enter Tryz.func49, Tryz.ntmps49
  go_wp2
  go_ret
  exact ⟨w.heap.size, rfl, Blk.new _ _ _, (Ext.refl w).alloc _⟩
theorem call_o_nip (args : Array Value) (w : World) : (callFunc 79 args).run Tryz.prog w = .ok (.enter 79 args) w := by
  unfold callFunc
  simp [go_sem, Tryz.func79, Tryz.f79]
theorem with_nip (s : Sl) (w : World) : Calls Tryz.prog 50 #[s.val] w (WithPost 79 s w) := by
  obtain ⟨A, n, c, xs⟩ := s
  go_enter Tryz.func50, Tryz.ntmps50
  go_wp2
  go_ret
  exact ⟨w.heap.size, rfl, Blk.new _ _ _, (Ext.refl w).alloc _⟩
theorem call_o_em (args : Array Value) (w : World) : (callFunc 80 args).run Tryz.prog w = .ok (.enter 80 args) w := by
  unfold callFunc
  simp [go_sem, Tryz.func80, Tryz.f80]
theorem with_em (s : Sl) (w : World) : Calls Tryz.prog 51 #[s.val] w (WithPost 80 s w) := by
  obtain ⟨A, n, c, xs⟩ := s
  go_enter Tryz.func51, Tryz.ntmps51
  go_wp2
  go_ret
  exact ⟨w.heap.size, rfl, Blk.new _ _ _, (Ext.refl w).alloc _⟩
theorem call_o_nem (args : Array Value) (w : World) : (callFunc 82 args).run Tryz.prog w = .ok (.enter 82 args) w := by
  unfold callFunc
  simp [go_sem, Tryz.func82, Tryz.f82]
theorem with_nem (s : Sl) (w : World) : Calls Tryz.prog 52 #[s.val] w (WithPost 82 s w) := by
  obtain ⟨A, n, c, xs⟩ := s
  go_enter Tryz.func52, Tryz.ntmps52
  go_wp2
  go_ret
  exact ⟨w.heap.size, rfl, Blk.new _ _ _, (Ext.refl w).alloc _⟩
theorem call_o_uri (args : Array Value) (w : World) : (callFunc 83 args).run Tryz.prog w = .ok (.enter 83 args) w := by
  unfold callFunc
  simp [go_sem, Tryz.func83, Tryz.f83]
theorem with_uri (s : Sl) (w : World) : Calls Tryz.prog 53 #[s.val] w (WithPost 83 s w) := by
  obtain ⟨A, n, c, xs⟩ := s
  go_enter Tryz.func53, Tryz.ntmps53
  go_wp2
  go_ret
  exact ⟨w.heap.size, rfl, Blk.new _ _ _, (Ext.refl w).alloc _⟩
theorem call_o_nuri (args : Array Value) (w : World) : (callFunc 85 args).run Tryz.prog w = .ok (.enter 85 args) w := by
  unfold callFunc
  simp [go_sem, Tryz.func85, Tryz.f85]
theorem with_nuri (s : Sl) (w : World) : Calls Tryz.prog 54 #[s.val] w (WithPost 85 s w) := by
  obtain ⟨A, n, c, xs⟩ := s
  go_enter Tryz.func54, Tryz.ntmps54
  go_wp2
  go_ret
  exact ⟨w.heap.size, rfl, Blk.new _ _ _, (Ext.refl w).alloc _⟩
theorem call_o_cn (args : Array Value) (w : World) : (callFunc 86 args).run Tryz.prog w = .ok (.enter 86 args) w := by
  unfold callFunc
  simp [go_sem, Tryz.func86, Tryz.f86]
theorem with_cn (s : Sl) (w : World) : Calls Tryz.prog 55 #[s.val] w (WithPost 86 s w) := by
  obtain ⟨A, n, c, xs⟩ := s
  go_enter Tryz.func55, Tryz.ntmps55
  go_wp2
  go_ret
  exact ⟨w.heap.size, rfl, Blk.new _ _ _, (Ext.refl w).alloc _⟩
theorem call_o_ncn (args : Array Value) (w : World) : (callFunc 88 args).run Tryz.prog w = .ok (.enter 88 args) w := by
  unfold callFunc
  simp [go_sem, Tryz.func88, Tryz.f88]
theorem with_ncn (s : Sl) (w : World) : Calls Tryz.prog 56 #[s.val] w (WithPost 88 s w) := by
  obtain ⟨A, n, c, xs⟩ := s
  go_enter Tryz.func56, Tryz.ntmps56
  go_wp2
  go_ret
  exact ⟨w.heap.size, rfl, Blk.new _ _ _, (Ext.refl w).alloc _⟩
theorem call_o_pr (args : Array Value) (w : World) : (callFunc 89 args).run Tryz.prog w = .ok (.enter 89 args) w := by
  unfold callFunc
  simp [go_sem, Tryz.func89, Tryz.f89]
theorem with_pr (s : Sl) (w : World) : Calls Tryz.prog 57 #[s.val] w (WithPost 89 s w) := by
  obtain ⟨A, n, c, xs⟩ := s
  go_enter Tryz.func57, Tryz.ntmps57
  go_wp2
  go_ret
  exact ⟨w.heap.size, rfl, Blk.new _ _ _, (Ext.refl w).alloc _⟩
theorem call_o_npr (args : Array Value) (w : World) : (callFunc 90 args).run Tryz.prog w = .ok (.enter 90 args) w := by
  unfold callFunc
  simp [go_sem, Tryz.func90, Tryz.f90]
theorem with_npr (s : Sl) (w : World) : Calls Tryz.prog 58 #[s.val] w (WithPost 90 s w) := by
  obtain ⟨A, n, c, xs⟩ := s
  go_enter Tryz.func58, Tryz.ntmps58
  go_wp2
  go_ret
  exact ⟨w.heap.size, rfl, Blk.new _ _ _, (Ext.refl w).alloc _⟩
end Go.Proofs.YtnefafkdfcmmfaaGreatDoor
