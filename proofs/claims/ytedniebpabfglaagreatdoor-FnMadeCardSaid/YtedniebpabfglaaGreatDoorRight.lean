/- The walk of right: texts that are taken. -/
import Derived.Test.YtedniebpabfglaaGreatDoorNew
namespace Go.Proofs.YtedniebpabfglaaGreatDoor
open Go.RowKit

/-- A text that is taken: at most 120 bytes, ASCII, none a minus. -/
def fineT (s : ByteArray) : Prop := s.size ≤ 120 ∧ ∀ j, (h : j < s.size) → s[j].toNat < 128 ∧ s[j].toNat ≠ 45
set_option maxHeartbeats 4000000 in
set_option maxRecDepth 100000 in
theorem right_any (A : Option Addr) (n c : Nat) (xs : List ByteArray) (w : World) (hr : RdS w A n xs) (hn : n ≤ 20) (hf : ∀ x ∈ xs, fineT x) :
    Calls Tryz.prog 21 #[.slice A n c] w (BoolPost true w) := by
  have HR := Lib.hid hr; clear hr
  have HF := Lib.hid hf; clear hf
  have h20 : ¬ (20 : Int) < (n : Int) := by omega
  go_enter Tryz.func21, Tryz.ntmps21
  go_wp2
  go_loopw [4, 5, 11, 20] (fun _ _ i _ wr => ∃ k : Nat, i = .int .i64 k ∧ k ≤ n ∧ Ext w wr) (fun _ _ i _ _ => n - (intOf i).toNat)
  case atStart => exact ⟨0, rfl, by omega, Ext.refl w⟩
  case round =>
    obtain ⟨k, rfl, hk, hb⟩ := hrel
    by_cases hlt : k < n
    · have hkx : k < xs.length := by rw [HR.out.1]; exact hlt
      obtain ⟨ad, rfl, hc⟩ := (HR.out.ext hb).2.2 k hkx
      obtain ⟨x, hx⟩ : ∃ x, x = xs[k] := ⟨_, rfl⟩
      rw [← hx] at hc
      have HX : Hid (fineT x) := HF.out x (by rw [hx]; exact List.getElem_mem hkx)
      clear hx
      have hsz : ¬ (120 : Int) < (x.size : Int) := by have := HX.out.1; omega
      obtain ⟨wo, rfl⟩ : ∃ wo : World, wo = wr := ⟨_, rfl⟩
      go_wp2
      go_loopw [5, 20] (fun _ i w2 => ∃ j : Nat, i = .int .i64 j ∧ j ≤ x.size ∧ Ext w w2) (fun _ i _ => x.size - (intOf i).toNat)
      case atStart => exact ⟨0, rfl, by omega, hb⟩
      case round =>
        obtain ⟨j, rfl, hj, hb2⟩ := hrel
        by_cases hjl : j < x.size
        · have hb0 := (HX.out.2 j hjl).1
          have h80 : ¬ (128 : Int) ≤ ((x[j]).toNat : Int) := by omega
          clear hb0
          have hw4 : IntKind.i64.wrap ((j : Int) + 4) = (j : Int) + 4 := IntWalk.i64_in _ (by have := HX.out.1; omega)
          by_cases h4 : (j : Int) + 4 ≤ (x.size : Int)
          · have h1 : j + 1 < x.size := by omega
            have h2 : j + 2 < x.size := by omega
            have h3 : j + 3 < x.size := by omega
            have hw1 : IntKind.i64.wrap ((j : Int) + 1) = ((j + 1 : Nat) : Int) := by rw [IntWalk.i64_in _ (by have := HX.out.1; omega)]; rfl
            have hw2 : IntKind.i64.wrap ((j : Int) + 2) = ((j + 2 : Nat) : Int) := by rw [IntWalk.i64_in _ (by have := HX.out.1; omega)]; rfl
            have hw3 : IntKind.i64.wrap ((j : Int) + 3) = ((j + 3 : Nat) : Int) := by rw [IntWalk.i64_in _ (by have := HX.out.1; omega)]; rfl
            have hm : (((x[j + 2].toNat : Nat) : Int) == 45) = false := by have := (HX.out.2 (j + 2) h2).2; simp; omega
            go_wp2
            all_goals exact ⟨⟨j + 1, by go_num, by omega, hb2⟩, by simp [intOf]; omega⟩
          · go_wp2
            go_roundw
            case rel => exact ⟨j + 1, by go_num, by omega, hb2⟩
            case measure => simp [intOf]; omega
        · go_wp2
          go_roundw
          case rel => exact ⟨k + 1, by go_num, by omega, hb2⟩
          case measure => simp [intOf]; omega
    · go_wp2
      go_ret
      exact ⟨rfl, hb⟩
end Go.Proofs.YtedniebpabfglaaGreatDoor
