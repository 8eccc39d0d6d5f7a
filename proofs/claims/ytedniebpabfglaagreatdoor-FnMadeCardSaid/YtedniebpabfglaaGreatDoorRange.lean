/- The walks of spec.Range and isRange: whether a text is a range. -/
import Derived.Test.YtedniebpabfglaaGreatDoorNumber
namespace Go.Proofs.YtedniebpabfglaaGreatDoor
open Go.RowKit

/-- What Range returns. -/
def RangePost (s : ByteArray) (w : World) (e : Ending) (w' : World) : Prop :=
  ∃ (q n : Int), e = .returned (.tuple #[.int .u32 q, .int .i64 n, .bool (Pl.isRange (bl s))]) ∧ Ext w w'
theorem Range_no {s : ByteArray} {w w' : World} (h : Pl.isRange (bl s) = false) (hb : Ext w w') : RangePost s w (.returned (.tuple #[.int .u32 0, .int .i64 0, .bool false])) w' := ⟨0, 0, by rw [h], hb⟩
theorem ret_tup3 {a b c a' b' c' : Value} (h : a = a') (k : b = b') (l : c = c') : Ending.returned (.tuple #[a, b, c]) = .returned (.tuple #[a', b', c']) := by rw [h, k, l]

set_option maxHeartbeats 2000000 in
set_option maxRecDepth 100000 in
/-- The loop over the four numbers, and what stands behind it. -/
theorem Range_any (s : ByteArray) (w : World) (hs : s.size ≤ 2147483647) :
    Calls Tryz.prog 17 #[.string s] w (RangePost s w) := by
  go_enter Tryz.func17, Tryz.ntmps17
  go_wp2_with fail
  refine (cut_any s 47 w (by omega)).mono ?_
  rintro e w1 ⟨ad, bi, rfl, hA, hB, hAs, hBs, hb1⟩
  have HR : Hid (Pl.isRange (bl s) = ((!(Pl.cutAt 47 (bl s)).2.2 || Pl.isNum (bl bi) 32) && Pl.octsOk 4 (bl ad))) := by unfold Hid Pl.isRange; rw [hA, hB]
  clear hA hB
  cases hm : (Pl.cutAt 47 (bl s)).2.2 with
  | false =>
    have HM := Lib.hid hm; clear hm
    have HQ : Hid (Pl.isRange (bl s) = Pl.octsOk 4 (bl ad)) := by unfold Hid; rw [HR.out, HM.out]; rfl
    go_wp2
    go_loopw [5, 11, 12] (fun a o i wr => ∃ (k : Nat) (x : ByteArray) (q : Int), i = .int .i64 k ∧ k ≤ 4 ∧ a = .string x ∧ x.size ≤ s.size ∧ o = .int .u32 q ∧ Pl.octsOk (4 - k) (bl x) = Pl.isRange (bl s) ∧ Ext w wr) (fun _ _ i _ => 4 - (intOf i).toNat)
    case atStart => exact ⟨0, ad, 0, rfl, by omega, rfl, hAs, rfl, HQ.out.symm, hb1⟩
    case round =>
      obtain ⟨k, x, q, rfl, hk, rfl, hx, rfl, hoct, hb⟩ := hrel
      have HO := Lib.hid hoct; clear hoct
      by_cases hlt : k < 4
      · go_wp2_with fail
        refine (cut_any x 46 _ (by omega)).mono ?_
        rintro e w5 ⟨pa, re, rfl, hA, hB, hAs2, hBs2, hb5⟩
        have HE : Hid (Pl.isRange (bl s) = (Pl.isNum (bl pa) 255 && ((Pl.cutAt 46 (bl x)).2.2 == decide (0 < 4 - k - 1)) && Pl.octsOk (4 - k - 1) (bl re))) := by
          unfold Hid
          rw [← HO.out, show 4 - k = (4 - k - 1) + 1 by omega, Pl.octsOk, hA, hB]
          rfl
        clear hA hB
        obtain ⟨mo, hmo⟩ : ∃ mo, mo = (Pl.cutAt 46 (bl x)).2.2 := ⟨_, rfl⟩
        rw [← hmo] at HE ⊢
        clear hmo
        go_wp2_with fail
        refine (number_any pa 255 _ (by omega) (by omega)).mono ?_
        rintro e w6 ⟨rfl, hb6⟩
        obtain ⟨nv, hnv⟩ : ∃ nv : Nat, nv = (if Pl.isNum (bl pa) 255 then Pl.numVal (bl pa) else 0) := ⟨_, rfl⟩
        rw [← hnv]
        cases hn : Pl.isNum (bl pa) 255 with
        | false =>
          have HF : Hid (Pl.isRange (bl s) = false) := by unfold Hid; rw [HE.out, hn]; rfl
          clear hn hnv
          go_wp2
          all_goals go_ret3
          all_goals exact Range_no HF.out ((hb.tr hb5).tr hb6)
        | true =>
          rw [hn] at HE hnv
          have hnb : nv ≤ 255 := by rw [hnv]; exact (Pl.isNum_get hn).2.2.2
          clear hn hnv
          by_cases hmk : mo = decide (k < 3)
          · have HF : Hid (Pl.octsOk (4 - (k + 1)) (bl re) = Pl.isRange (bl s)) := by
              unfold Hid
              rw [HE.out, hmk, show 4 - (k + 1) = 4 - k - 1 by omega]
              have : (decide (k < 3) == decide (0 < 4 - k - 1)) = true := by rw [beq_iff_eq]; exact decide_eq_decide.2 (by omega)
              rw [this]; simp
            by_cases h3 : k < 3
            · obtain rfl : mo = true := by rw [hmk]; simp; omega
              have h3b : decide ((k : Int) < 3) = true := by simp; omega
              clear hmk HE
              go_wp2
              go_goals
              go_roundw
              case rel => exact ⟨k + 1, re, _, by go_num, by omega, rfl, by omega, rfl, HF.out, (hb.tr hb5).tr hb6⟩
              case measure => simp [intOf]; omega
            · obtain rfl : mo = false := by rw [hmk]; simp; omega
              have h3b : decide ((k : Int) < 3) = false := by simp; omega
              clear hmk HE
              go_wp2
              go_roundw
              case rel => exact ⟨k + 1, re, _, by go_num, by omega, rfl, by omega, rfl, HF.out, (hb.tr hb5).tr hb6⟩
              case measure => simp [intOf]; omega
          · have HF : Hid (Pl.isRange (bl s) = false) := by
              unfold Hid
              rw [HE.out]
              have : (mo == decide (0 < 4 - k - 1)) = false := by
                rw [beq_eq_false_iff_ne]
                intro e
                exact hmk (by rw [e]; exact decide_eq_decide.2 (by omega))
              rw [this]; simp
            by_cases h3 : k < 3
            · obtain rfl : mo = false := by cases mo with | false => rfl | true => exact absurd (by simp; omega) hmk
              have h3b : decide ((k : Int) < 3) = true := by simp; omega
              clear hmk HE
              go_wp2
              all_goals go_ret3
              all_goals exact Range_no HF.out ((hb.tr hb5).tr hb6)
            · obtain rfl : mo = true := by cases mo with | true => rfl | false => exact absurd (by simp; omega) hmk
              have h3b : decide ((k : Int) < 3) = false := by simp; omega
              clear hmk HE
              go_wp2
              all_goals go_ret3
              all_goals exact Range_no HF.out ((hb.tr hb5).tr hb6)
      · obtain rfl : k = 4 := by omega
        have HT : Hid (Pl.isRange (bl s) = true) := by unfold Hid; rw [← HO.out]; rfl
        go_wp2
        go_ret3
        exact ⟨_, _, ret_tup3 rfl rfl (by rw [HT.out]; rfl), hb⟩
  | true =>
    have HM := Lib.hid hm; clear hm
    go_wp2_with fail
    refine (number_any bi 32 w1 (by omega) (by omega)).mono ?_
    rintro e w2 ⟨rfl, hb2⟩
    cases hn : Pl.isNum (bl bi) 32 with
    | false =>
      have HF : Hid (Pl.isRange (bl s) = false) := by unfold Hid; rw [HR.out, HM.out, hn]; rfl
      clear hn
      go_wp2
      go_ret3
      exact Range_no HF.out (hb1.tr hb2)
    | true =>
      have HQ : Hid (Pl.isRange (bl s) = Pl.octsOk 4 (bl ad)) := by unfold Hid; rw [HR.out, HM.out, hn]; rfl
      have HN := Lib.hid hn; clear hn
      go_wp2
      go_loopw [5, 11, 12] (fun a o i wr => ∃ (k : Nat) (x : ByteArray) (q : Int), i = .int .i64 k ∧ k ≤ 4 ∧ a = .string x ∧ x.size ≤ s.size ∧ o = .int .u32 q ∧ Pl.octsOk (4 - k) (bl x) = Pl.isRange (bl s) ∧ Ext w wr) (fun _ _ i _ => 4 - (intOf i).toNat)
      case atStart => exact ⟨0, ad, 0, rfl, by omega, rfl, hAs, rfl, HQ.out.symm, hb1.tr hb2⟩
      case round =>
        obtain ⟨k, x, q, rfl, hk, rfl, hx, rfl, hoct, hb⟩ := hrel
        have HO := Lib.hid hoct; clear hoct
        by_cases hlt : k < 4
        · go_wp2_with fail
          refine (cut_any x 46 _ (by omega)).mono ?_
          rintro e w5 ⟨pa, re, rfl, hA, hB, hAs2, hBs2, hb5⟩
          have HE : Hid (Pl.isRange (bl s) = (Pl.isNum (bl pa) 255 && ((Pl.cutAt 46 (bl x)).2.2 == decide (0 < 4 - k - 1)) && Pl.octsOk (4 - k - 1) (bl re))) := by
            unfold Hid
            rw [← HO.out, show 4 - k = (4 - k - 1) + 1 by omega, Pl.octsOk, hA, hB]
            rfl
          clear hA hB
          obtain ⟨mo, hmo⟩ : ∃ mo, mo = (Pl.cutAt 46 (bl x)).2.2 := ⟨_, rfl⟩
          rw [← hmo] at HE ⊢
          clear hmo
          go_wp2_with fail
          refine (number_any pa 255 _ (by omega) (by omega)).mono ?_
          rintro e w6 ⟨rfl, hb6⟩
          obtain ⟨nv, hnv⟩ : ∃ nv : Nat, nv = (if Pl.isNum (bl pa) 255 then Pl.numVal (bl pa) else 0) := ⟨_, rfl⟩
          rw [← hnv]
          cases hn : Pl.isNum (bl pa) 255 with
          | false =>
            have HF : Hid (Pl.isRange (bl s) = false) := by unfold Hid; rw [HE.out, hn]; rfl
            clear hn hnv
            go_wp2
            all_goals go_ret3
            all_goals exact Range_no HF.out ((hb.tr hb5).tr hb6)
          | true =>
            rw [hn] at HE hnv
            have hnb : nv ≤ 255 := by rw [hnv]; exact (Pl.isNum_get hn).2.2.2
            clear hn hnv
            by_cases hmk : mo = decide (k < 3)
            · have HF : Hid (Pl.octsOk (4 - (k + 1)) (bl re) = Pl.isRange (bl s)) := by
                unfold Hid
                rw [HE.out, hmk, show 4 - (k + 1) = 4 - k - 1 by omega]
                have : (decide (k < 3) == decide (0 < 4 - k - 1)) = true := by rw [beq_iff_eq]; exact decide_eq_decide.2 (by omega)
                rw [this]; simp
              by_cases h3 : k < 3
              · obtain rfl : mo = true := by rw [hmk]; simp; omega
                have h3b : decide ((k : Int) < 3) = true := by simp; omega
                clear hmk HE
                go_wp2
                go_roundw
                case rel => exact ⟨k + 1, re, _, by go_num, by omega, rfl, by omega, rfl, HF.out, (hb.tr hb5).tr hb6⟩
                case measure => simp [intOf]; omega
              · obtain rfl : mo = false := by rw [hmk]; simp; omega
                have h3b : decide ((k : Int) < 3) = false := by simp; omega
                clear hmk HE
                go_wp2
                go_roundw
                case rel => exact ⟨k + 1, re, _, by go_num, by omega, rfl, by omega, rfl, HF.out, (hb.tr hb5).tr hb6⟩
                case measure => simp [intOf]; omega
            · have HF : Hid (Pl.isRange (bl s) = false) := by
                unfold Hid
                rw [HE.out]
                have : (mo == decide (0 < 4 - k - 1)) = false := by
                  rw [beq_eq_false_iff_ne]
                  intro e
                  exact hmk (by rw [e]; exact decide_eq_decide.2 (by omega))
                rw [this]; simp
              by_cases h3 : k < 3
              · obtain rfl : mo = false := by cases mo with | false => rfl | true => exact absurd (by simp; omega) hmk
                have h3b : decide ((k : Int) < 3) = true := by simp; omega
                clear hmk HE
                go_wp2
                all_goals go_ret3
                all_goals exact Range_no HF.out ((hb.tr hb5).tr hb6)
              · obtain rfl : mo = true := by cases mo with | true => rfl | false => exact absurd (by simp; omega) hmk
                have h3b : decide ((k : Int) < 3) = false := by simp; omega
                clear hmk HE
                go_wp2
                all_goals go_ret3
                all_goals exact Range_no HF.out ((hb.tr hb5).tr hb6)
        · obtain rfl : k = 4 := by omega
          have HT : Hid (Pl.isRange (bl s) = true) := by unfold Hid; rw [← HO.out]; rfl
          go_wp2
          go_ret3
          exact ⟨_, _, ret_tup3 rfl rfl (by rw [HT.out]; rfl), hb⟩
theorem isRange_any (s : ByteArray) (w : World) (hs : s.size ≤ 2147483647) :
    Calls Tryz.prog 12 #[.string s] w (BoolPost (Pl.isRange (bl s)) w) := by
  go_enter Tryz.func12, Tryz.ntmps12
  go_wp2_with fail
  refine (Range_any _ _ (by omega)).mono ?_
  rintro e w1 ⟨q, n, rfl, hb⟩
  go_wp2
  go_ret
  exact ⟨rfl, hb⟩
end Go.Proofs.YtedniebpabfglaaGreatDoor
