/- The law FnLiteral: what it comes to. -/
import Derived.Test.YtnefafkdfcmmfaaGreatDoorAns
namespace Go.Proofs.YtnefafkdfcmmfaaGreatDoor
open Go.RowKit

theorem small_split_map (l : List UInt8) : (Pl.splitDot (Pl.small l)).map Pl.small = (Pl.splitDot l).map Pl.small := by
  rw [Pl.small_split, List.map_map]
  exact List.map_congr_left fun x _ => Pl.small_small x
/-- At a wildcard: what is behind it counts. -/
theorem match_star (n r : List UInt8) (c : List UInt8) (hst : Pl.star c = some r) : Pl.matchD true (Pl.small (42 :: 46 :: n)) (Pl.normD c) = domP r n := by
  unfold Pl.matchD Pl.normD domP
  rw [hst]
  show ((!Pl.wildD (42 :: 46 :: Pl.small n) || true) && (((Pl.splitDot (42 :: 46 :: Pl.small n)).drop (if Pl.dotC (46 :: Pl.small r) then 1 else 0)).map Pl.small == (Pl.labs (46 :: Pl.small r)).map Pl.small)) = _
  rw [Pl.split_star, Pl.labs_dot, show Pl.dotC (46 :: Pl.small r) = true from rfl, if_pos rfl, List.drop_succ_cons, List.drop_zero, small_split_map, small_split_map]
  simp
/-- No other constraint is one of a wildcard. -/
theorem match_none (n c : List UInt8) (hst : Pl.star c = none) (hc : Pl.isName c = true) : Pl.matchD true (Pl.small (42 :: 46 :: n)) (Pl.normD c) = false := by
  unfold Pl.matchD Pl.normD
  rw [hst]
  show ((!Pl.wildD (42 :: 46 :: Pl.small n) || true) && (((Pl.splitDot (42 :: 46 :: Pl.small n)).drop (if Pl.dotC (Pl.small c) then 1 else 0)).map Pl.small == (Pl.labs (Pl.small c)).map Pl.small)) = false
  have hcs : Pl.isName (Pl.small c) = true := by rw [Pl.small_name]; exact hc
  rw [Pl.split_star, Pl.dotC_name hcs, if_neg (by decide), List.drop_zero, Pl.name_labs hcs]
  simp only [Bool.or_true, Bool.true_and, beq_eq_false_iff_ne]
  intro h
  cases hs : Pl.splitDot (Pl.small c) with
  | nil => exact Pl.splitDot_ne _ hs
  | cons a t =>
    rw [hs] at h
    have h1 : Pl.small [42] = Pl.small a := by
      have := congrArg List.head? h
      simpa using this
    have h2 := Pl.name_all hcs a (by rw [hs]; simp)
    rw [← Pl.small_okLab, ← h1] at h2
    revert h2; decide
theorem match_no (n c : List UInt8) : Pl.matchD false (Pl.small (42 :: 46 :: n)) (Pl.normD c) = false := by
  unfold Pl.matchD
  rw [show Pl.wildD (Pl.small (42 :: 46 :: n)) = true from rfl]
  rfl
set_option maxHeartbeats 4000000 in
set_option maxRecDepth 100000 in
theorem FnLiteral_any (c n : ByteArray) (lit : Bool) (w : World) (ht : SpTab w) : Calls Tryz.prog 4 #[.string c, .string n, .bool lit] w (BoolPost true w) := by
  have HT := Lib.hid ht; clear ht
  by_cases hbc : (2147483647 : Int) < (c.size : Int)
  · go_enter Tryz.func4, Tryz.ntmps4
    go_wp2
    go_ret
    exact ⟨rfl, Ext.refl _⟩
  by_cases hbn : (2147483647 : Int) < (n.size : Int)
  · go_enter Tryz.func4, Tryz.ntmps4
    go_wp2
    go_ret
    exact ⟨rfl, Ext.refl _⟩
  cases hn : Pl.isName (bl n) with
  | false =>
    have HN := Lib.hid hn; clear hn
    go_enter Tryz.func4, Tryz.ntmps4
    go_wp2_with fail
    refine (Labels_any n w (by omega)).mono ?_
    rintro e w1 ⟨A1, n1, c1, xs, rfl, hrx, hxs, hb1⟩
    rw [HN.out] at hxs ⊢
    clear hrx hxs
    have HB1 := Lib.hid hb1; clear hb1
    go_wp2
    go_ret
    exact ⟨rfl, HB1.out⟩
  | true =>
  cases hd : Pl.isDomain (bl c) with
  | false =>
    have HN := Lib.hid hn; clear hn
    have HD := Lib.hid hd; clear hd
    go_enter Tryz.func4, Tryz.ntmps4
    go_wp2_with fail
    refine (Labels_any n w (by omega)).mono ?_
    rintro e w1 ⟨A1, n1, c1, xs, rfl, hrx, hxs, hb1⟩
    rw [HN.out] at hxs ⊢
    clear hrx hxs
    have HB1 := Lib.hid hb1; clear hb1
    go_wp2_with fail
    refine (IsDomain_any c w1 (by omega)).mono ?_
    rintro e w2 ⟨rfl, hb2⟩
    rw [HD.out]
    have HB2 := Lib.hid hb2; clear hb2
    go_wp2
    go_ret
    exact ⟨rfl, HB1.out.tr HB2.out⟩
  | true =>
    have hzn : n.size ≤ 43 := by rw [← bl_length]; exact Pl.name_len hn
    have hcat : ¬ 9223372036854775807 < 2 + n.size := by omega
    obtain ⟨x, hx⟩ : ∃ x : ByteArray, x = ⟨#[42, 46]⟩ ++ n := ⟨_, rfl⟩
    have hbx : bl x = 42 :: 46 :: bl n := by
      rw [hx]
      show (ByteArray.data (_ ++ _)).toList = _
      rw [ByteArray.data_append, Array.toList_append]
      rfl
    have HBX := Lib.hid hbx; have HXE := Lib.hid hx; clear hbx hx
    have HN := Lib.hid hn; clear hn
    have HD := Lib.hid hd; clear hd
    have HQ : Hid (∀ (M : Bool), toldP M (numOf M 1) (numOf M 2) (if M then 0 else 2) = true) := fun M => by cases M <;> rfl
    cases lit with
    | false =>
      go_enter Tryz.func4, Tryz.ntmps4
      go_wp2_with fail
      refine (Labels_any n w (by omega)).mono ?_
      rintro e w1 ⟨A1, n1, c1, xs, rfl, hrx, hxs, hb1⟩
      rw [HN.out] at hxs ⊢
      clear hrx hxs
      have HB1 := Lib.hid hb1; clear hb1
      go_wp2_with fail
      refine (IsDomain_any c w1 (by omega)).mono ?_
      rintro e w2 ⟨rfl, hb2⟩
      rw [HD.out]
      have HB2 := Lib.hid (HB1.out.tr hb2); clear hb2
      go_wp2_with fail
      rw [← HXE.out]
      have HB3 : Hid (Ext w (w2.alloc (.cells #[.string c] 9))) := HB2.out.alloc _
      refine (show Calls Tryz.prog 12 _ _ _ from DNS_one w2.heap.size c x false _ _ (Blk.new w2 9 #[.string c]) (HT.out.ext HB3.out) HD.out (.inr ⟨bl n, HBX.out, HN.out⟩)).mono ?_
      rintro e w3 ⟨rfl, hb3⟩
      rw [HBX.out, match_no]
      have HB4 := Lib.hid (HB3.out.tr hb3); clear hb3
      go_wp2_with fail
      refine (ltold_any _ _ _ _ w3).mono ?_
      rintro e _ ⟨rfl, rfl⟩
      rw [show toldP false (numOf false 1) (numOf false 2) 2 = true from rfl]
      go_wp2_with fail
      refine (answers_any _ (HT.out.ext HB4.out)).mono ?_
      rintro e w5 ⟨rfl, hb5⟩
      have HB5 := Lib.hid hb5; clear hb5
      go_wp2
      go_ret
      exact ⟨rfl, HB4.out.tr HB5.out⟩
    | true =>
      cases hst : Pl.star (bl c) with
      | none =>
        have HST := Lib.hid hst
        have hnm : Pl.isName (bl c) = true := by
          have := HD.out
          unfold Pl.isDomain at this
          rw [hst] at this
          exact this
        have hq : (2 : Int) < (c.size : Int) → ((c.extract 0 2).toList == [42, 46]) = false := by
          intro _
          rw [toList_bl, bl_extract, beq_eq_false_iff_ne]
          obtain ⟨y, r, e, hl⟩ := Pl.name_head hnm
          rw [e]
          intro h
          have h2 : y = 42 := by
            have := congrArg List.head? h
            simpa using this
          exact (Pl.let_ne y hl).2 h2
        have hcase : ((2 : Int) < (c.size : Int) ∧ ((c.extract 0 2).toList == [42, 46]) = false) ∨ ¬ (2 : Int) < (c.size : Int) := by
          by_cases h : (2 : Int) < (c.size : Int)
          · exact .inl ⟨h, hq h⟩
          · exact .inr h
        have HNM := Lib.hid hnm
        have HCASE := Lib.hid hcase
        clear hst hnm hq hcase
        go_enter Tryz.func4, Tryz.ntmps4
        go_wp2_with fail
        refine (Labels_any n w (by omega)).mono ?_
        rintro e w1 ⟨A1, n1, c1, xs, rfl, hrx, hxs, hb1⟩
        rw [HN.out] at hxs ⊢
        clear hrx hxs
        have HB1 := Lib.hid hb1; clear hb1
        go_wp2_with fail
        refine (IsDomain_any c w1 (by omega)).mono ?_
        rintro e w2 ⟨rfl, hb2⟩
        rw [HD.out]
        have HB2 := Lib.hid (HB1.out.tr hb2); clear hb2
        go_wp2_with fail
        rw [← HXE.out]
        have HB3 : Hid (Ext w (w2.alloc (.cells #[.string c] 9))) := HB2.out.alloc _
        refine (show Calls Tryz.prog 12 _ _ _ from DNS_one w2.heap.size c x true _ _ (Blk.new w2 9 #[.string c]) (HT.out.ext HB3.out) HD.out (.inr ⟨bl n, HBX.out, HN.out⟩)).mono ?_
        rintro e w3 ⟨rfl, hb3⟩
        rw [HBX.out, match_none _ _ HST.out HNM.out]
        have HB4 := Lib.hid (HB3.out.tr hb3); clear hb3
        rcases HCASE.out with ⟨h2, hq⟩ | h2
        all_goals
          go_wp2_with fail
          refine (ltold_any _ _ _ _ w3).mono ?_
          rintro e _ ⟨rfl, rfl⟩
          rw [show toldP false (numOf false 1) (numOf false 2) 2 = true from rfl]
          go_wp2_with fail
          refine (answers_any _ (HT.out.ext HB4.out)).mono ?_
          rintro e w5 ⟨rfl, hb5⟩
          have HB5 := Lib.hid hb5; clear hb5
          go_wp2
          go_ret
          exact ⟨rfl, HB4.out.tr HB5.out⟩
      | some r =>
        obtain ⟨hcr, hrn⟩ := Pl.star_eq hst
        have HST := Lib.hid hst
        have hnm : Pl.isName r = true := by
          have := HD.out
          unfold Pl.isDomain at this
          rw [hst] at this
          exact this
        have h2 : (2 : Int) < (c.size : Int) := by
          have := bl_length c
          rw [hcr] at this
          cases r with
          | nil => exact absurd rfl hrn
          | cons a t => simp at this; omega
        have hq : ((c.extract 0 2).toList == [42, 46]) = true := by
          rw [toList_bl, bl_extract, hcr]
          rfl
        obtain ⟨c2, hc2⟩ : ∃ y, y = c.extract 2 c.size := ⟨_, rfl⟩
        have hb2 : bl c2 = r := by rw [hc2, bl_extract, hcr]; simp [← bl_length, hcr]
        have HC2 : Hid (bl c2 = r) := hb2
        have HCE := Lib.hid hc2
        have HNM := Lib.hid hnm
        clear hst hnm hcr hrn hb2 hc2
        go_enter Tryz.func4, Tryz.ntmps4
        go_wp2_with fail
        refine (Labels_any n w (by omega)).mono ?_
        rintro e w1 ⟨A1, n1, c1, xs, rfl, hrx, hxs, hb1⟩
        rw [HN.out] at hxs ⊢
        clear hrx hxs
        have HB1 := Lib.hid hb1; clear hb1
        go_wp2_with fail
        refine (IsDomain_any c w1 (by omega)).mono ?_
        rintro e w2 ⟨rfl, hb2⟩
        rw [HD.out]
        have HB2 := Lib.hid (HB1.out.tr hb2); clear hb2
        go_wp2_with fail
        rw [← HXE.out]
        have HB3 : Hid (Ext w (w2.alloc (.cells #[.string c] 9))) := HB2.out.alloc _
        refine (show Calls Tryz.prog 12 _ _ _ from DNS_one w2.heap.size c x true _ _ (Blk.new w2 9 #[.string c]) (HT.out.ext HB3.out) HD.out (.inr ⟨bl n, HBX.out, HN.out⟩)).mono ?_
        rintro e w3 ⟨rfl, hb3⟩
        rw [HBX.out, match_star _ _ _ HST.out]
        have HB4 := Lib.hid (HB3.out.tr hb3); clear hb3
        cases hdp : domP r (bl n) with
        | true =>
          have HDP := Lib.hid hdp; clear hdp
          go_wp2_with fail
          rw [← HCE.out]
          refine (Domain_any c2 n w3 (by rw [HC2.out]; exact HNM.out) HN.out).mono ?_
          rintro e w6 ⟨rfl, hb6⟩
          rw [HC2.out, HDP.out]
          have HB6 := Lib.hid (HB4.out.tr hb6); clear hb6
          go_wp2_with fail
          refine (ltold_any _ _ _ _ w6).mono ?_
          rintro e _ ⟨rfl, rfl⟩
          rw [show toldP true (numOf true 1) (numOf true 2) 0 = true from rfl]
          go_wp2_with fail
          refine (answers_any _ (HT.out.ext HB6.out)).mono ?_
          rintro e w5 ⟨rfl, hb5⟩
          have HB5 := Lib.hid hb5; clear hb5
          go_wp2
          go_ret
          exact ⟨rfl, HB6.out.tr HB5.out⟩
        | false =>
          have HDP := Lib.hid hdp; clear hdp
          go_wp2_with fail
          rw [← HCE.out]
          refine (Domain_any c2 n w3 (by rw [HC2.out]; exact HNM.out) HN.out).mono ?_
          rintro e w6 ⟨rfl, hb6⟩
          rw [HC2.out, HDP.out]
          have HB6 := Lib.hid (HB4.out.tr hb6); clear hb6
          go_wp2_with fail
          refine (ltold_any _ _ _ _ w6).mono ?_
          rintro e _ ⟨rfl, rfl⟩
          rw [show toldP false (numOf false 1) (numOf false 2) 2 = true from rfl]
          go_wp2_with fail
          refine (answers_any _ (HT.out.ext HB6.out)).mono ?_
          rintro e w5 ⟨rfl, hb5⟩
          have HB5 := Lib.hid hb5; clear hb5
          go_wp2
          go_ret
          exact ⟨rfl, HB6.out.tr HB5.out⟩
end Go.Proofs.YtnefafkdfcmmfaaGreatDoor
