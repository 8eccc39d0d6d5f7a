/- The walk of spec.number: a number in decimal, not above another one. -/
import Derived.Test.YtedniebpabfglaaGreatDoorCut
namespace Go.Proofs.YtedniebpabfglaaGreatDoor
open Go.RowKit

/-- What number returns. -/
def NumPost (s : ByteArray) (m : Nat) (w : World) (e : Ending) (w' : World) : Prop :=
  e = .returned (.tuple #[.int .i64 ((if Pl.isNum (bl s) m then Pl.numVal (bl s) else 0 : Nat) : Int), .bool (Pl.isNum (bl s) m)]) ∧ Ext w w'
theorem Num_no {s : ByteArray} {m : Nat} {w w' : World} (h : Pl.isNum (bl s) m = false) (hb : Ext w w') : NumPost s m w (.returned (.tuple #[.int .i64 0, .bool false])) w' := ⟨by rw [h]; rfl, hb⟩
theorem bl_headD (s : ByteArray) (h : 0 < s.size) : (bl s).headD 0 = s[0] := by
  have e := bl_get s 0 h
  rw [← e, List.headD_eq_head?_getD, List.head?_eq_getElem?, List.getElem?_eq_getElem (by rw [bl_length]; exact h)]
  rfl

set_option maxHeartbeats 2000000 in
set_option maxRecDepth 100000 in
theorem number_any (s : ByteArray) (m : Nat) (w : World) (hs : s.size ≤ 2147483647) (hm : m ≤ 65535) :
    Calls Tryz.prog 38 #[.string s, .int .i64 (m : Int)] w (NumPost s m w) := by
  go_enter Tryz.func38, Tryz.ntmps38
  go_wp2
  go_loopw [6, 7] (fun n i wr => ∃ (k v : Nat), n = .int .i64 v ∧ i = .int .i64 k ∧ k ≤ s.size ∧ v ≤ m ∧ v = Pl.numVal ((bl s).take k) ∧ (∀ j, (h : j < (bl s).length) → j < k → Pl.isDig (bl s)[j] = true) ∧ (0 < k → (bl s).length ≤ 1 ∨ (bl s).headD 0 ≠ 48) ∧ Ext w wr) (fun _ i _ => s.size - (intOf i).toNat)
  case atStart => exact ⟨0, 0, rfl, rfl, by omega, by omega, rfl, by omega, by omega, Ext.refl w⟩
  case round =>
    obtain ⟨k, v, rfl, rfl, hk, hv, hvv, hdig, hhd, hb⟩ := hrel
    have HV := Lib.hid hvv; clear hvv
    have HDG := Lib.hid hdig; clear hdig
    have HHD := Lib.hid hhd; clear hhd
    by_cases hlt : k < s.size
    · have hkl : k < (bl s).length := by rw [bl_length]; exact hlt
      have HG : Hid ((bl s)[k] = s[k]) := bl_get s k hlt
      have hr0 : 0 ≤ (s[k].toNat : Int) := by omega
      have hr1 : (s[k].toNat : Int) ≤ 255 := by have := s[k].toNat_lt; omega
      by_cases hd : 48 ≤ (s[k].toNat : Int) ∧ (s[k].toNat : Int) ≤ 57
      · have HD : Hid (Pl.isDig (bl s)[k] = true) := by have e : (bl s)[k] = s[k] := HG.out; unfold Hid; rw [e]; exact dig_of _ hd
        obtain ⟨hd0, hd1⟩ := hd
        by_cases hz : 1 < s.size ∧ s[0]'(by omega) = 48
        · obtain ⟨hz1, hz2⟩ := hz
          have hp : 0 < s.size := by omega
          have h48 : (((s[0]'hp).toNat : Int) == 48) = true := by rw [hz2]; rfl
          have HF := Lib.hid (Pl.isNum_bad_zero (s := bl s) (most := m) (by rw [bl_length]; exact hz1) ((bl_headD s hp).trans hz2))
          clear hz2
          go_wp2
          go_ret2
          exact Num_no HF.out hb
        · have HH : Hid ((bl s).length ≤ 1 ∨ (bl s).headD 0 ≠ 48) := by
            by_cases h1 : 1 < s.size
            · exact .inr (by rw [bl_headD s (by omega)]; exact fun e => hz ⟨h1, e⟩)
            · exact .inl (by rw [bl_length]; omega)
          have hp : 0 < s.size := by omega
          have hcase : (s.size : Int) ≤ 1 ∨ (1 < (s.size : Int) ∧ (((s[0]'hp).toNat : Int) == 48) = false) := by
            by_cases h1 : 1 < s.size
            · refine .inr ⟨by omega, ?_⟩
              rw [beq_eq_false_iff_ne]
              exact fun e => hz ⟨h1, UInt8.toNat_inj.1 (show (s[0]'hp).toNat = 48 by omega)⟩
            · exact .inl (by omega)
          clear hz
          have HNV : Hid (Pl.numVal ((bl s).take (k + 1)) = 10 * v + (s[k].toNat - 48)) := by
            have e : (bl s)[k] = s[k] := HG.out
            unfold Hid
            rw [Pl.numVal_take_succ _ _ hkl, e, ← HV.out]
          have hw1 : IntKind.i64.wrap (10 * (v : Int)) = 10 * (v : Int) := IntWalk.i64_in _ (by omega)
          by_cases hbig : 10 * (v : Int) + ((s[k].toNat : Int) - 48) ≤ (m : Int)
          · rcases hcase with hc | ⟨hc, hc2⟩
            all_goals
              go_wp2
              go_roundw
              case rel => exact ⟨k + 1, 10 * v + (s[k].toNat - 48), by go_num, by go_num, by omega, by omega, HNV.out.symm, (fun j h hj => by rcases Nat.lt_or_ge j k with h2 | h2; exact HDG.out j h h2; obtain rfl : j = k := (by omega); exact HD.out), fun _ => HH.out, hb⟩
              case measure => simp [intOf]; omega
          · have HF : Hid (Pl.isNum (bl s) m = false) := Pl.isNum_bad_val (k := k + 1) (by rw [HNV.out]; omega)
            rcases hcase with hc | ⟨hc, hc2⟩
            all_goals
              go_wp2
              go_ret2
              exact Num_no HF.out hb
      · have HF : Hid (Pl.isNum (bl s) m = false) := Pl.isNum_bad_char hkl (by have e : (bl s)[k] = s[k] := HG.out; rw [e]; exact dig_not _ hd)
        rcases (show (s[k].toNat : Int) < 48 ∨ 57 < (s[k].toNat : Int) from by omega) with hc | hc
        all_goals
          clear hd
          go_wp2
          go_ret2
          exact Num_no HF.out hb
    · obtain rfl : k = s.size := by omega
      have hl : (bl s).length = s.size := bl_length s
      rw [List.take_of_length_le (by omega)] at HV
      by_cases h0 : s.size = 0
      · have HF : Hid (Pl.isNum (bl s) m = false) := by
          have : bl s = [] := List.eq_nil_of_length_eq_zero (by omega)
          unfold Hid; rw [this]; rfl
        have h00 : (s.size : Int) ≤ 0 := by omega
        have hv0 : v = 0 := by
          have : bl s = [] := List.eq_nil_of_length_eq_zero (by omega)
          rw [HV.out, this]; rfl
        subst hv0
        have hdec : decide (0 < s.size) = false := decide_eq_false (by omega)
        clear h0 hl
        go_wp2
        go_ret2
        exact ⟨ret_tup2 (by rw [HF.out]; rfl) (by rw [HF.out]; first | rfl | exact congrArg Value.bool hdec), hb⟩
      · have HF : Hid (Pl.isNum (bl s) m = true) := Pl.isNum_ok (fun e => h0 (by rw [← hl, e]; rfl)) (fun j hj => HDG.out j hj (by omega)) (HHD.out (by omega)) (by rw [← HV.out]; exact hv)
        have hp : 0 < (s.size : Int) := by omega
        clear h0 hl
        go_wp2
        go_ret2
        exact ⟨ret_tup2 (by rw [HF.out, ← HV.out]; rfl) (by rw [HF.out]; simp; omega), hb⟩
end Go.Proofs.YtedniebpabfglaaGreatDoor
