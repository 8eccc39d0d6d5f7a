/- What a row's arguments read as: slices of texts, slices of slices of bytes; and that they read so again. -/
import Derived.Test.YtedniebpabfglaaGreatDoorRowKit
import Derived.Test.YtedniebpabfglaaGreatDoorNames2
import Derived.Deep.Matrix
import Derived.SliceStrings
import Derived.ChangeMaps5
import Derived.SizedLaws
namespace Go.Proofs.YtedniebpabfglaaGreatDoor
open Go.ChangeShapes Go.WideShapes Go.ChangeAt Go.RowKit Go.ChangeMaps Go.Deep

theorem laidOut : laidOutB Tryz.prog = true := by kernel_rfl
theorem cells_str : Tryz.prog.cellsOf 9 = 1 := by kernel_rfl
theorem cells_byt : Tryz.prog.cellsOf 53 = 1 := by kernel_rfl
theorem cells_u8 : Tryz.prog.cellsOf 5 = 1 := by kernel_rfl
theorem rec_strs : Tryz.prog.readableRec 22 = true := by kernel_rfl
theorem row_strs : 22 < Tryz.prog.types.size := of_decide_eq_true (by kernel_rfl)
theorem bytes_str : Tryz.prog.bytesOf 9 = 16 := by kernel_rfl
theorem bytes_byt : Tryz.prog.bytesOf 53 = 24 := by kernel_rfl
theorem reach_lt {n k b : Nat} (h : (n + k) * b ≤ reachBytes) (hb : 0 < b) : n ≤ 140737488355328 := by
  have h1 : n ≤ (n + k) * b := Nat.le_trans (Nat.le_add_right n k) (Nat.le_mul_of_pos_right _ hb)
  have h2 := reachBytes_lt
  have h3 : (2 : Nat) ^ 47 = 140737488355328 := by decide
  rw [h3] at h2
  omega
set_option maxRecDepth 100000 in
/-- A slice of texts that came in. -/
theorem rds_of {H : Type} {enc : TypeId × Value → H} {W : World} {base : Nat} {v : Value} {d : DataW H} {ps : List MemPlace} (hv : Value.okWide Tryz.prog W .any base 22 v)
    (h : DataW.Trod enc Tryz.prog W 0 (fun _ => true) true 22 v d ps) (hs : ∀ el sp, d = .slice el sp → (el.length + sp.length) * Tryz.prog.bytesOf 9 ≤ reachBytes) : ∃ A n c xs, v = .slice A n c ∧ RdS W A n xs := by
  obtain ⟨a0, len, cap, rfl⟩ := okWide_slice Tryz.underlying22 hv
  obtain ⟨fuel, hf⟩ := h
  rcases open_strings Tryz.underlying22 Tryz.underlying9 cells_str hf with ⟨hcs, _⟩ | ⟨a, len', cap', ss, hcs, _, hl, hm, hz, hx, hcell, hws⟩
  · have h1 : (Value.slice a0 len cap) = .slice none 0 0 := by simpa [Value.cells] using hcs
    injection h1 with e1 e2 e3
    subst e1 e2 e3
    exact ⟨none, 0, 0, [], rfl, rfl, by omega, fun j hj => by simp at hj⟩
  · have h1 : (Value.slice a0 len cap) = .slice (some a) len' cap' := by simpa [Value.cells] using hcs
    injection h1 with e1 e2 e3
    subst e1 e2 e3
    have hz2 : ss.length = cap := by simpa using hz
    have hlen : (ss.take len).length = len := by rw [List.length_take]; omega
    have hbound : len ≤ 140737488355328 := by
      have h2 := hs _ _ (congrArg Prod.fst hx)
      rw [bytes_str] at h2
      have h3 := reach_lt h2 (by omega)
      simpa [strs, hlen, hz2, Nat.min_eq_left hl] using h3
    refine ⟨some a, len, cap, ss.take len, rfl, hlen, hbound, fun j hj => ⟨a, rfl, ?_⟩⟩
    have hj2 : j < len := by rw [hlen] at hj; exact hj
    rw [hcell j (by omega), List.getElem_take, List.getD_eq_getElem?_getD, List.getElem?_eq_getElem (by omega)]
    rfl
end Go.Proofs.YtedniebpabfglaaGreatDoor
