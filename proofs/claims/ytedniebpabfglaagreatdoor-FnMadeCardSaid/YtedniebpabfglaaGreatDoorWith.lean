/- Options, and what they do: slices.Clone, With.., and each closure as an option. -/
import Derived.Test.YtedniebpabfglaaGreatDoorRight
import Derived.Test.YtedniebpabfglaaGreatDoorShelf
namespace Go.Proofs.YtedniebpabfglaaGreatDoor
open Go.RowKit

def ClonePost (s : Sl) (w : World) (e : Ending) (w' : World) : Prop := ∃ s' : Sl, e = .returned s'.val ∧ s'.xs = s.xs ∧ s'.n = s.n ∧ s'.ok w' ∧ Ext w w'
theorem clone_any (s : Sl) (w : World) (h : s.ok w) (hn : s.n ≤ 20) : Calls Tryz.prog 23 #[s.val] w (ClonePost s w) := by
  obtain ⟨A, n, c, xs⟩ := s
  obtain ⟨⟨hl, _, hr⟩, hs⟩ := h
  simp only at hl hr hs hn
  cases A with
  | none =>
    have h0 : xs = [] := by
      cases xs with
      | nil => rfl
      | cons a t => obtain ⟨ad, e, _⟩ := hr 0 (by simp); cases e
    subst h0
    refine (Tryz.slices_Clone_string_nil n c w).mono ?_
    rintro e w' ⟨rfl, rfl⟩
    have hn0 : n = 0 := by simpa using hl.symm
    subst hn0
    exact ⟨⟨none, 0, 0, []⟩, rfl, rfl, rfl, ⟨⟨rfl, by simp, fun j hj => by simp at hj⟩, by simp⟩, Ext.refl _⟩
  | some a =>
    rcases Nat.eq_zero_or_pos n with h0 | h0
    · subst h0
      have hx : xs = [] := List.eq_nil_of_length_eq_zero hl
      subst hx
      refine (Tryz.slices_Clone_string_zero a c w).mono ?_
      rintro e w' ⟨v', rfl, hown, _, hb⟩
      obtain ⟨A', c', rfl, hrd⟩ := own_rdS (xs := []) (by simpa using hown) (by omega)
      exact ⟨⟨A', 0, c', []⟩, rfl, rfl, rfl, ⟨hrd, by simp⟩, hb⟩
    · have hspot : a.spot = none := by
        obtain ⟨ad, e, hc⟩ := hr 0 (by omega)
        injection e with e
        subst e
        have h1 : a.add 0 = a := rfl
        rw [h1] at hc
        unfold World.cell? at hc
        cases hsp : a.spot with
        | none => rfl
        | some q => rw [hsp] at hc; split at hc <;> simp at hc
      obtain ⟨b, off, sp⟩ := a
      simp only at hspot
      subst hspot
      refine (Tryz.slices_Clone_string b off n c xs w (by omega) (by omega) (fun j hj => ?_)).mono ?_
      · obtain ⟨ad, e, hc⟩ := hr j hj
        injection e with e
        subst e
        have h1 : (Addr.add ⟨b, off, none⟩ j) = ⟨b, off + j, none⟩ := by by_cases h : j = 0 <;> simp [Addr.add, h]
        rw [h1] at hc
        rw [hc]; simp [List.getD, List.getElem?_eq_getElem hj]
      · rintro e w' ⟨v', rfl, hown, _, hb⟩
        obtain ⟨A', c', rfl, hrd⟩ := own_rdS (xs := xs) (n := n) (by rw [List.take_of_length_le (by omega)] at hown; exact hown) (by omega)
        exact ⟨⟨A', n, c', xs⟩, rfl, rfl, rfl, ⟨hrd, hs⟩, hb⟩
/-- What With.. returns: the closure over a box with the slice. -/
def WithPost (C : FuncId) (s : Sl) (w : World) (e : Ending) (w' : World) : Prop := ∃ b, e = .returned (.func (.func C) #[] #[.pointer (some ⟨b, 0, none⟩)]) ∧ Blk w' b 22 #[s.val] ∧ Ext w w'

theorem call_o_dns (args : Array Value) (w : World) : (callFunc 39 args).run Tryz.prog w = .ok (.enter 39 args) w := by
  unfold callFunc
  simp [go_sem, Tryz.func39, Tryz.f39]
theorem with_dns (s : Sl) (w : World) : Calls Tryz.prog 22 #[s.val] w (WithPost 39 s w) := by
  obtain ⟨A, n, c, xs⟩ := s
  go_enter Tryz.func22, Tryz.ntmps22
  go_wp2
  go_ret
  exact ⟨w.heap.size, rfl, Blk.new _ _ _, (Ext.refl w).alloc _⟩
theorem call_o_ndns (args : Array Value) (w : World) : (callFunc 41 args).run Tryz.prog w = .ok (.enter 41 args) w := by
  unfold callFunc
  simp [go_sem, Tryz.func41, Tryz.f41]
theorem with_ndns (s : Sl) (w : World) : Calls Tryz.prog 24 #[s.val] w (WithPost 41 s w) := by
  obtain ⟨A, n, c, xs⟩ := s
  go_enter Tryz.func24, Tryz.ntmps24
  go_wp2
  go_ret
  exact ⟨w.heap.size, rfl, Blk.new _ _ _, (Ext.refl w).alloc _⟩
theorem call_o_ip (args : Array Value) (w : World) : (callFunc 42 args).run Tryz.prog w = .ok (.enter 42 args) w := by
  unfold callFunc
  simp [go_sem, Tryz.func42, Tryz.f42]
theorem with_ip (s : Sl) (w : World) : Calls Tryz.prog 25 #[s.val] w (WithPost 42 s w) := by
  obtain ⟨A, n, c, xs⟩ := s
  go_enter Tryz.func25, Tryz.ntmps25
  go_wp2
  go_ret
  exact ⟨w.heap.size, rfl, Blk.new _ _ _, (Ext.refl w).alloc _⟩
theorem call_o_nip (args : Array Value) (w : World) : (callFunc 47 args).run Tryz.prog w = .ok (.enter 47 args) w := by
  unfold callFunc
  simp [go_sem, Tryz.func47, Tryz.f47]
theorem with_nip (s : Sl) (w : World) : Calls Tryz.prog 26 #[s.val] w (WithPost 47 s w) := by
  obtain ⟨A, n, c, xs⟩ := s
  go_enter Tryz.func26, Tryz.ntmps26
  go_wp2
  go_ret
  exact ⟨w.heap.size, rfl, Blk.new _ _ _, (Ext.refl w).alloc _⟩
theorem call_o_em (args : Array Value) (w : World) : (callFunc 48 args).run Tryz.prog w = .ok (.enter 48 args) w := by
  unfold callFunc
  simp [go_sem, Tryz.func48, Tryz.f48]
theorem with_em (s : Sl) (w : World) : Calls Tryz.prog 27 #[s.val] w (WithPost 48 s w) := by
  obtain ⟨A, n, c, xs⟩ := s
  go_enter Tryz.func27, Tryz.ntmps27
  go_wp2
  go_ret
  exact ⟨w.heap.size, rfl, Blk.new _ _ _, (Ext.refl w).alloc _⟩
theorem call_o_nem (args : Array Value) (w : World) : (callFunc 50 args).run Tryz.prog w = .ok (.enter 50 args) w := by
  unfold callFunc
  simp [go_sem, Tryz.func50, Tryz.f50]
theorem with_nem (s : Sl) (w : World) : Calls Tryz.prog 28 #[s.val] w (WithPost 50 s w) := by
  obtain ⟨A, n, c, xs⟩ := s
  go_enter Tryz.func28, Tryz.ntmps28
  go_wp2
  go_ret
  exact ⟨w.heap.size, rfl, Blk.new _ _ _, (Ext.refl w).alloc _⟩
theorem call_o_uri (args : Array Value) (w : World) : (callFunc 51 args).run Tryz.prog w = .ok (.enter 51 args) w := by
  unfold callFunc
  simp [go_sem, Tryz.func51, Tryz.f51]
theorem with_uri (s : Sl) (w : World) : Calls Tryz.prog 29 #[s.val] w (WithPost 51 s w) := by
  obtain ⟨A, n, c, xs⟩ := s
  go_enter Tryz.func29, Tryz.ntmps29
  go_wp2
  go_ret
  exact ⟨w.heap.size, rfl, Blk.new _ _ _, (Ext.refl w).alloc _⟩
theorem call_o_nuri (args : Array Value) (w : World) : (callFunc 53 args).run Tryz.prog w = .ok (.enter 53 args) w := by
  unfold callFunc
  simp [go_sem, Tryz.func53, Tryz.f53]
theorem with_nuri (s : Sl) (w : World) : Calls Tryz.prog 30 #[s.val] w (WithPost 53 s w) := by
  obtain ⟨A, n, c, xs⟩ := s
  go_enter Tryz.func30, Tryz.ntmps30
  go_wp2
  go_ret
  exact ⟨w.heap.size, rfl, Blk.new _ _ _, (Ext.refl w).alloc _⟩
theorem call_o_cn (args : Array Value) (w : World) : (callFunc 54 args).run Tryz.prog w = .ok (.enter 54 args) w := by
  unfold callFunc
  simp [go_sem, Tryz.func54, Tryz.f54]
theorem with_cn (s : Sl) (w : World) : Calls Tryz.prog 31 #[s.val] w (WithPost 54 s w) := by
  obtain ⟨A, n, c, xs⟩ := s
  go_enter Tryz.func31, Tryz.ntmps31
  go_wp2
  go_ret
  exact ⟨w.heap.size, rfl, Blk.new _ _ _, (Ext.refl w).alloc _⟩
theorem call_o_ncn (args : Array Value) (w : World) : (callFunc 56 args).run Tryz.prog w = .ok (.enter 56 args) w := by
  unfold callFunc
  simp [go_sem, Tryz.func56, Tryz.f56]
theorem with_ncn (s : Sl) (w : World) : Calls Tryz.prog 32 #[s.val] w (WithPost 56 s w) := by
  obtain ⟨A, n, c, xs⟩ := s
  go_enter Tryz.func32, Tryz.ntmps32
  go_wp2
  go_ret
  exact ⟨w.heap.size, rfl, Blk.new _ _ _, (Ext.refl w).alloc _⟩
theorem call_o_pr (args : Array Value) (w : World) : (callFunc 57 args).run Tryz.prog w = .ok (.enter 57 args) w := by
  unfold callFunc
  simp [go_sem, Tryz.func57, Tryz.f57]
theorem with_pr (s : Sl) (w : World) : Calls Tryz.prog 33 #[s.val] w (WithPost 57 s w) := by
  obtain ⟨A, n, c, xs⟩ := s
  go_enter Tryz.func33, Tryz.ntmps33
  go_wp2
  go_ret
  exact ⟨w.heap.size, rfl, Blk.new _ _ _, (Ext.refl w).alloc _⟩
theorem call_o_npr (args : Array Value) (w : World) : (callFunc 58 args).run Tryz.prog w = .ok (.enter 58 args) w := by
  unfold callFunc
  simp [go_sem, Tryz.func58, Tryz.f58]
theorem with_npr (s : Sl) (w : World) : Calls Tryz.prog 34 #[s.val] w (WithPost 58 s w) := by
  obtain ⟨A, n, c, xs⟩ := s
  go_enter Tryz.func34, Tryz.ntmps34
  go_wp2
  go_ret
  exact ⟨w.heap.size, rfl, Blk.new _ _ _, (Ext.refl w).alloc _⟩
end Go.Proofs.YtedniebpabfglaaGreatDoor
