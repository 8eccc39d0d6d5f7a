/- The walk of spec.small: a text with small letters. -/
import Derived.Test.YtedniebpabfglaaGreatDoorRange
import Derived.Lib.ConvBytes
import Derived.Laws.BytesArg
namespace Go.Proofs.YtedniebpabfglaaGreatDoor
open Go.RowKit

def SmallPost (s : ByteArray) (w : World) (e : Ending) (w' : World) : Prop :=
  ∃ t : ByteArray, e = .returned (.string t) ∧ bl t = Pl.small (bl s) ∧ Ext w w'
/-- The bytes of a row some of which have been made small. -/
def lowTo (l : List UInt8) (k : Nat) : List Int := ((l.take k).map fun c => ((Pl.low c).toNat : Int)) ++ ((l.drop k).map fun c => (c.toNat : Int))
theorem lowTo_length (l : List UInt8) (k : Nat) : (lowTo l k).length = l.length := by simp [lowTo]; omega
theorem lowTo_get (l : List UInt8) (k j : Nat) (hj : j < l.length) : (lowTo l k).getD j 0 = if j < k then ((Pl.low l[j]).toNat : Int) else (l[j].toNat : Int) := by
  unfold lowTo
  by_cases h : j < k
  · rw [if_pos h, List.getD_eq_getElem?_getD, List.getElem?_append_left (by simp; omega)]
    rw [List.getElem?_map, List.getElem?_take, if_pos h, List.getElem?_eq_getElem hj]
    rfl
  · rw [if_neg h, List.getD_eq_getElem?_getD, List.getElem?_append_right (by simp; omega)]
    simp only [List.length_map, List.length_take]
    rw [show min k l.length = k by omega, List.getElem?_map, List.getElem?_drop, show k + (j - k) = j by omega, List.getElem?_eq_getElem hj]
    rfl
theorem strOfNums_small (l : List UInt8) : bl (strOfNums (lowTo l l.length)) = Pl.small l := by
  unfold strOfNums lowTo Pl.small bl
  simp [List.map_map, Function.comp_def]
def RowB (w : World) (g n : Nat) (f : Nat → Int) : Prop := ∀ j, j < n → w.cell? ⟨g, j, none⟩ = some (.int .u8 (f j)) ∧ w.frozen? ⟨g, j, none⟩ = false
theorem bytesWorld_row (w : World) (e : TypeId) (s : ByteArray) : RowB (Lib.bytesWorld w e s) w.heap.size s.size (fun j => (lowTo (bl s) 0).getD j 0) := by
  intro j hj
  refine ⟨?_, ?_⟩
  · show _ = some (Value.int .u8 ((lowTo (bl s) 0).getD j 0))
    rw [Lib.bytesWorld_cell w e s j hj, lowTo_get _ _ _ (by rw [bl_length]; exact hj), if_neg (by omega)]
    simp [bl, List.getD_eq_getElem?_getD, List.getElem?_eq_getElem (show j < s.data.toList.length by simpa using hj)]
  · have h := Lib.bytesWorld_at_new w e s
    unfold World.frozen?
    rw [h]
    simp [Lib.bytesCells]
    intro h2; omega
theorem bytesWorld_ext (w : World) (e : TypeId) (s : ByteArray) : Ext w (Lib.bytesWorld w e s) :=
  ⟨by simp [Lib.bytesWorld, World.freeze, World.alloc, World.drew, -World.alloc_eq, -World.drew_eq], by simp [Lib.bytesWorld, World.freeze, World.alloc, World.drew, -World.alloc_eq, -World.drew_eq], by simp [Lib.bytesWorld, World.freeze, World.alloc, World.drew, -World.alloc_eq, -World.drew_eq], by rw [Lib.bytesWorld_size]; omega, fun k hk => Lib.bytesWorld_at_old w e s k hk⟩
theorem RowB.set {w : World} {g n : Nat} {f f' : Nat → Int} (h : RowB w g n f) (k : Nat) (hk : k < n) (v : Int) (hv : f' k = v) (ho : ∀ j, j < n → j ≠ k → f' j = f j) : RowB (w.setCell ⟨g, k, none⟩ (.int .u8 v)) g n f' := by
  intro j hj
  obtain ⟨h1, h2⟩ := h j hj
  refine ⟨?_, by rw [World.frozen?_setCell]; exact h2⟩
  by_cases e : j = k
  · subst e; rw [World.cell?_setCell_same _ _ _ h1, hv]
  · rw [World.cell?_setCell_other _ _ _ _ (fun h => e (by injection h with _ h2; exact h2.symm)), h1, ho j hj e]

theorem low_up (c : UInt8) (h : 65 ≤ (c.toNat : Int) ∧ (c.toNat : Int) ≤ 90) : ((Pl.low c).toNat : Int) = (c.toNat : Int) + 32 := by
  unfold Pl.low
  rw [if_pos (by omega)]
  have : (c + 32).toNat = (c.toNat + 32) % 256 := by rw [UInt8.toNat_add]; rfl
  rw [this]; omega
theorem low_same (c : UInt8) (h : ¬ (65 ≤ (c.toNat : Int) ∧ (c.toNat : Int) ≤ 90)) : ((Pl.low c).toNat : Int) = (c.toNat : Int) := by
  unfold Pl.low
  rw [if_neg (by omega)]

set_option maxHeartbeats 1000000 in
set_option maxRecDepth 100000 in
theorem small_any (s : ByteArray) (w : World) (hs : s.size ≤ 2147483647) :
    Calls Tryz.prog 20 #[.string s] w (SmallPost s w) := by
  have hconv := Lib.run_convert_string_bytes (P := Tryz.prog) w 9 53 5 s Tryz.underlying9 Tryz.underlying53 Tryz.underlying5
  have HB := Lib.hid (bytesWorld_row w 5 s)
  have HX := Lib.hid (bytesWorld_ext w 5 s)
  go_enter Tryz.func20, Tryz.ntmps20
  go_wp2
  go_loopw [4, 5, 10] (fun _ _ i wr => ∃ k : Nat, i = .int .i64 k ∧ k ≤ s.size ∧ RowB wr w.heap.size s.size (fun j => (lowTo (bl s) k).getD j 0) ∧ Ext w wr) (fun _ _ i _ => s.size - (intOf i).toNat)
  case atStart => exact ⟨0, rfl, by omega, HB.out, HX.out⟩
  case round =>
    clear hconv
    obtain ⟨k, rfl, hk, hrow, hb⟩ := hrel
    have HR := Lib.hid hrow; clear hrow
    by_cases hlt : k < s.size
    · have hkl : k < (bl s).length := by rw [bl_length]; exact hlt
      obtain ⟨c, hc⟩ : ∃ c : UInt8, c = (bl s)[k] := ⟨_, rfl⟩
      have hcell : wr.cell? ⟨w.heap.size, k, none⟩ = some (.int .u8 (c.toNat : Int)) := by
        have h := (HR.out k hlt).1
        rw [h]
        show some (Value.int .u8 ((lowTo (bl s) k).getD k 0)) = _
        rw [lowTo_get _ _ _ hkl, if_neg (by omega), hc]
      have hfr : wr.frozen? ⟨w.heap.size, k, none⟩ = false := (HR.out k hlt).2
      have hr0 : 0 ≤ (c.toNat : Int) := by omega
      have hr1 : (c.toNat : Int) ≤ 255 := by have := c.toNat_lt; omega
      have HC := Lib.hid hc; clear hc
      have hstep : ∀ v : Int, ((Pl.low c).toNat : Int) = v → (fun j => (lowTo (bl s) (k + 1)).getD j 0) k = v := by
        intro v hv
        show (lowTo (bl s) (k + 1)).getD k 0 = v
        rw [lowTo_get _ _ _ hkl, if_pos (by omega), ← HC.out, hv]
      have hoth : ∀ j, j < s.size → j ≠ k → (fun j => (lowTo (bl s) (k + 1)).getD j 0) j = (fun j => (lowTo (bl s) k).getD j 0) j := by
        intro j hj hne
        show (lowTo (bl s) (k + 1)).getD j 0 = (lowTo (bl s) k).getD j 0
        rw [lowTo_get _ _ _ (by rw [bl_length]; exact hj), lowTo_get _ _ _ (by rw [bl_length]; exact hj)]
        by_cases h : j < k
        · rw [if_pos h, if_pos (by omega)]
        · rw [if_neg h, if_neg (by omega)]
      have HS := Lib.hid hstep; clear hstep
      have HO := Lib.hid hoth; clear hoth
      by_cases hup : 65 ≤ (c.toNat : Int) ∧ (c.toNat : Int) ≤ 90
      · have HL := Lib.hid (low_up c hup)
        obtain ⟨hu0, hu1⟩ := hup
        go_wp2
        go_roundw
        case rel => exact ⟨k + 1, by go_num, by omega, HR.out.set k hlt _ (HS.out _ (by rw [HL.out]; omega)) HO.out, Below.setCell hb (Nat.le_refl _) _⟩
        case measure => simp [intOf]; omega
      · have HL := Lib.hid (low_same c hup)
        have HR2 : Hid (RowB wr w.heap.size s.size (fun j => (lowTo (bl s) (k + 1)).getD j 0)) := by
          intro j hj
          refine ⟨?_, (HR.out j hj).2⟩
          by_cases e : j = k
          · subst e
            have h := HS.out _ HL.out
            show _ = some (Value.int .u8 ((fun j => (lowTo (bl s) (_ + 1)).getD j 0) _))
            rw [h]; exact hcell
          · have h := HO.out j hj e
            show _ = some (Value.int .u8 ((fun j => (lowTo (bl s) (k + 1)).getD j 0) j))
            rw [h]; exact (HR.out j hj).1
        rcases (show (c.toNat : Int) < 65 ∨ 90 < (c.toNat : Int) from by omega) with hu | hu
        all_goals
          clear hup
          go_wp2
          go_roundw
          case rel => exact ⟨k + 1, by go_num, by omega, HR2.out, hb⟩
          case measure => simp [intOf]; omega
    · obtain rfl : k = s.size := by omega
      have hcv := run_convert_bytes_arg (P := Tryz.prog) wr 53 5 Tryz.underlying53 Tryz.underlying5 w.heap.size 0 s.size (grownCap w s.size 0 5) (lowTo (bl s) s.size) (by rw [lowTo_length, bl_length]) (fun i hi => by simpa using (HR.out i hi).1) 9 Tryz.underlying9
      go_wp2
      go_ret
      exact ⟨_, rfl, by rw [← bl_length]; exact strOfNums_small _, hb⟩
end Go.Proofs.YtedniebpabfglaaGreatDoor
