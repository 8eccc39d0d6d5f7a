/- The walks of told: no error, and an error of a name. -/
import Derived.Test.YtnefafkdfcmmfaaGreatDoorVn2
import Derived.Deep.RegionHeld3
namespace Go.Proofs.YtnefafkdfcmmfaaGreatDoor
open Go.RowKit

theorem told_nil (w : World) : Calls Tryz.prog 63 #[.nilIface] w (fun e w' => e = .returned (.tuple #[.bool true, .int .i64 0, .int .i64 0]) ∧ w' = w) := by
  go_enter Tryz.func63, Tryz.ntmps63
  go_wp2
  go_ret3
  exact ⟨rfl, rfl⟩
/-- The kinds of names. -/
def kindsL : List ByteArray := [⟨#[99, 110]⟩, ⟨#[100, 110, 115]⟩, ⟨#[105, 112]⟩, ⟨#[101, 109, 97, 105, 108]⟩, ⟨#[117, 114, 105]⟩, ⟨#[112, 114, 105, 110, 99, 105, 112, 97, 108]⟩]
theorem kinds_any (w : World) : Calls Tryz.prog 43 #[] w (fun e w' => ∃ b c, e = .returned (.slice (some ⟨b, 0, none⟩) 6 c) ∧ (∀ j, (h : j < kindsL.length) → w'.cell? ⟨b, j, none⟩ = some (.string kindsL[j])) ∧ Ext w w') := by
  go_enter Tryz.func43, Tryz.ntmps43
  go_wp2
  go_ret
  refine ⟨w.heap.size, 6, rfl, fun j hj => ?_, (Ext.refl w).alloc _⟩
  have hB : Blk (w.alloc (.cells (kindsL.map Value.string).toArray 64)) w.heap.size 64 (kindsL.map Value.string).toArray := Blk.new _ _ _
  have := hB.cell j
  rw [List.getElem?_toArray, List.getElem?_map, List.getElem?_eq_getElem hj] at this
  exact this
set_option maxHeartbeats 1000000 in
theorem idx_any (b c : Nat) (i : Nat) (hi : i < kindsL.length) (hne : ∀ j, (h : j < i) → (kindsL[i].toList == kindsL[j].toList) = false) (w : World)
    (hc : ∀ j, (h : j < kindsL.length) → w.cell? ⟨b, j, none⟩ = some (.string kindsL[j])) :
    Calls Tryz.prog 95 #[.slice (some ⟨b, 0, none⟩) 6 c, .string kindsL[i]] w (fun e w' => e = .returned (.int .i64 i) ∧ w' = w) := by
  have HC := Lib.hid hc; clear hc
  have HN := Lib.hid hne; clear hne
  have hl : kindsL.length = 6 := rfl
  obtain ⟨s, hs⟩ : ∃ s, s = kindsL[i] := ⟨_, rfl⟩
  rw [← hs]
  have HS := Lib.hid hs; clear hs
  go_enter Tryz.func95, Tryz.ntmps95
  go_wp2
  go_loopw [5, 8] (fun _ v wr => ∃ k : Nat, v = .int .i64 k ∧ k ≤ i ∧ wr = w) (fun _ v _ => 6 - (intOf v).toNat)
  case atStart => exact ⟨0, rfl, by omega, rfl⟩
  case round =>
    obtain ⟨k, rfl, hk, rfl⟩ := hrel
    have hk6 : (k : Int) < 6 := by omega
    have hck := HC.out k (by omega)
    obtain ⟨t, ht⟩ : ∃ t, t = kindsL[k]'(by omega) := ⟨_, rfl⟩
    rw [← ht] at hck
    have HT := Lib.hid ht; clear ht
    by_cases hki : k < i
    · have hq : (s.toList == t.toList) = false := by rw [HS.out, HT.out]; exact HN.out k hki
      go_wp2
      go_roundw
      case rel => first | exact ⟨k + 1, by go_num, by omega, rfl⟩ | exact ⟨k + 1, by go_num, by omega, trivial⟩
      case measure => simp [intOf]; omega
    · have h0 : k = i := by omega
      have hq : (s.toList == t.toList) = true := by
        rw [HS.out, HT.out]
        subst h0
        exact beq_self_eq_true _
      subst h0
      clear hki hk
      go_wp2
      go_ret
      first | exact ⟨rfl, rfl⟩ | exact ⟨rfl, trivial⟩
theorem run_assert (p : Value) (w : World) : (Instr.typeAssert (.iface 96 p) 47 96 true).run Tryz.prog w = .ok (.tuple #[p, .bool true]) w := by kernel_rfl
set_option maxHeartbeats 1000000 in
set_option maxRecDepth 100000 in
theorem told_err (b i : Nat) (hi : i < kindsL.length) (hne : ∀ j, (h : j < i) → (kindsL[i].toList == kindsL[j].toList) = false) (nm : ByteArray) (w : World)
    (hB : Blk w b 100 #[.int .i64 1, .string kindsL[i], .string nm]) :
    Calls Tryz.prog 63 #[.iface 96 (.pointer (some ⟨b, 0, none⟩))] w (fun e w' => e = .returned (.tuple #[.bool false, .int .i64 1, .int .i64 ((i + 1 : Nat) : Int)]) ∧ Ext w w') := by
  have c0 : w.cell? ⟨b, 0, none⟩ = some (.int .i64 1) := hB.cell 0
  have c1 : w.cell? ⟨b, 1, none⟩ = some (.string kindsL[i]) := hB.cell 1
  clear hB
  have hl : kindsL.length = 6 := rfl
  have hw : IntKind.i64.wrap ((i : Int) + 1) = ((i + 1 : Nat) : Int) := by rw [IntWalk.i64_in _ (by omega)]; rfl
  have HN := Lib.hid hne; clear hne
  have hta := run_assert
  go_enter Tryz.func63, Tryz.ntmps63
  go_wp2
  go_region_held3 (fun w' => Ext w w' ∧ w'.cell? ⟨b, 0, none⟩ = some (.int .i64 1) ∧ w'.cell? ⟨b, 1, none⟩ = some (.string kindsL[i])) (first | exact ⟨Ext.drew (Ext.refl _), c0, c1⟩ | exact ⟨by assumption, Ext.cell (by assumption) c0, Ext.cell (by assumption) c1⟩) (first
    | (go_at_call 43; (refine (kinds_any _).mono ?_); rintro _ w1 ⟨b1, cc, rfl, hcc, hx1⟩; have hy1 := Ext.tr (by first | assumption | exact And.left (by assumption)) hx1)
    | (go_at_call 95; (refine (idx_any _ _ i hi HN.out _ (by assumption)).mono ?_); rintro _ _ ⟨rfl, rfl⟩))
  go_wp2
  go_ret3
  exact ⟨rfl, by assumption⟩
end Go.Proofs.YtnefafkdfcmmfaaGreatDoor
