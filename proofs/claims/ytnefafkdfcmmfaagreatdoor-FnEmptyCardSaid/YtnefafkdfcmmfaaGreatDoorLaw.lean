/- The walks of told of the laws, of spec.Domain, of answers. -/
import Derived.Test.YtnefafkdfcmmfaaGreatDoorStd
import Derived.Deep.RegionHeld3
namespace Go.Proofs.YtnefafkdfcmmfaaGreatDoor
open Go.RowKit

/-- What the laws want. -/
def toldP (ok : Bool) (rs kd want : Int) : Bool := if want = 0 then ok && (rs == 0) && (kd == 0) else !ok && (rs == 1) && (kd == want)
set_option maxHeartbeats 1000000 in
theorem ltold_any (ok : Bool) (rs kd want : Int) (w : World) :
    Calls Tryz.prog 14 #[.bool ok, .int .i64 rs, .int .i64 kd, .int .i64 want] w (fun e w' => e = .returned (.bool (toldP ok rs kd want)) ∧ w' = w) := by
  have hP := Lib.hid (show toldP ok rs kd want = (if want = 0 then ok && (rs == 0) && (kd == 0) else !ok && (rs == 1) && (kd == want)) from rfl)
  by_cases hw : want = 0
  · subst hw
    cases ok with
    | false =>
      go_enter Tryz.func14, Tryz.ntmps14
      go_wp2
      go_ret
      exact ⟨ret_bool (by rw [hP.out]; rfl), rfl⟩
    | true =>
      cases h1 : (rs == 0) with
      | false =>
        go_enter Tryz.func14, Tryz.ntmps14
        go_wp2
        go_ret
        exact ⟨ret_bool (by rw [hP.out, h1]; rfl), rfl⟩
      | true =>
        cases h2 : (kd == 0) with
        | false =>
          go_enter Tryz.func14, Tryz.ntmps14
          go_wp2
          go_ret
          exact ⟨ret_bool (by rw [hP.out, h1, h2]; rfl), rfl⟩
        | true =>
          go_enter Tryz.func14, Tryz.ntmps14
          go_wp2
          go_ret
          exact ⟨ret_bool (by rw [hP.out, h1, h2]; rfl), rfl⟩
  · have hw2 : (want == 0) = false := by rw [beq_eq_false_iff_ne]; exact hw
    rw [if_neg hw] at hP
    clear hw
    cases ok with
    | true =>
      go_enter Tryz.func14, Tryz.ntmps14
      go_wp2
      go_ret
      exact ⟨ret_bool (by rw [hP.out]; rfl), rfl⟩
    | false =>
      cases h1 : (rs == 1) with
      | false =>
        go_enter Tryz.func14, Tryz.ntmps14
        go_wp2
        go_ret
        exact ⟨ret_bool (by rw [hP.out, h1]; rfl), rfl⟩
      | true =>
        cases h2 : (kd == want) with
        | false =>
          go_enter Tryz.func14, Tryz.ntmps14
          go_wp2
          go_ret
          exact ⟨ret_bool (by rw [hP.out, h1, h2]; rfl), rfl⟩
        | true =>
          go_enter Tryz.func14, Tryz.ntmps14
          go_wp2
          go_ret
          exact ⟨ret_bool (by rw [hP.out, h1, h2]; rfl), rfl⟩

theorem small2 (s : ByteArray) (w : World) (hs : s.size ≤ 2147483647) : Calls Tryz.prog 32 #[.string s] w (fun e w' => e = .returned (.string (mk (Pl.small (bl s)))) ∧ Ext w w') := by
  refine (small_any s w hs).mono ?_
  rintro e w' ⟨t, rfl, ht, hx⟩
  exact ⟨by rw [← ht, mk_bl], hx⟩
/-- spec.Domain at two names. -/
def domP (c n : List UInt8) : Bool := (Pl.splitDot n).map Pl.small == (Pl.splitDot c).map Pl.small
set_option maxHeartbeats 4000000 in
set_option maxRecDepth 100000 in
theorem Domain_any (c n : ByteArray) (w : World) (hc : Pl.isName (bl c) = true) (hn : Pl.isName (bl n) = true) :
    Calls Tryz.prog 13 #[.string c, .string n] w (BoolPost (domP (bl c) (bl n)) w) := by
  have hsc : c.size ≤ 43 := by rw [← bl_length]; exact Pl.name_len hc
  have hsn : n.size ≤ 43 := by rw [← bl_length]; exact Pl.name_len hn
  have hnw : (2 : Int) < (c.size : Int) → ((c.extract 0 2).toList == [42, 46]) = false := by
    intro _
    rw [toList_bl, bl_extract, beq_eq_false_iff_ne]
    obtain ⟨x, r, e, hl⟩ := Pl.name_head hc
    rw [e]
    intro h
    have h2 : x = 42 := by
      have := congrArg List.head? h
      simpa using this
    exact (Pl.let_ne x hl).2 h2
  have HC := Lib.hid hc; have HN := Lib.hid hn; clear hc hn
  go_enter Tryz.func13, Tryz.ntmps13
  go_wp2_with fail
  refine (Labels_any n w (by omega)).mono ?_
  rintro e w1 ⟨A1, n1, c1, xs, rfl, hrx, hxs, hb1⟩
  rw [HN.out] at hxs ⊢
  have HRX := Lib.hid hrx; have HXS := Lib.hid (hxs rfl); have HB1 := Lib.hid hb1; clear hrx hxs hb1
  have HTL : Hid (∀ w', Calls Tryz.prog 10 #[.string c] w' (LabelsPost c w')) := fun w' => Labels_any c w' (by omega)
  have hcase : ((2 : Int) < (c.size : Int) ∧ ((c.extract 0 2).toList == [42, 46]) = false) ∨ ¬ (2 : Int) < (c.size : Int) := by
    by_cases h : (2 : Int) < (c.size : Int)
    · exact .inl ⟨h, hnw h⟩
    · exact .inr h
  clear hnw
  rcases hcase with ⟨h2, hq⟩ | h2
  all_goals go_wp2_with fail
  all_goals
    refine (HTL.out w1).mono ?_
    rintro e w2 ⟨A2, n2, k2, ys, rfl, hry, hys, hb2⟩
    rw [HC.out] at hys ⊢
    have HRY := Lib.hid hry; have HYS := Lib.hid (hys rfl); have HB2 := Lib.hid hb2; clear hry hys hb2
    have HL1 : Hid ((Pl.splitDot (bl n)).length = n1) := by unfold Hid; rw [← HXS.out, List.length_map]; exact HRX.out.1
    have HL2 : Hid ((Pl.splitDot (bl c)).length = n2) := by unfold Hid; rw [← HYS.out, List.length_map]; exact HRY.out.1
    have hn1 := HRX.out.2.1
    by_cases hlen : n1 = n2
    · subst hlen
      go_wp2
      go_loopw [10, 55] (fun _ i wr => ∃ j : Nat, i = .int .i64 j ∧ j ≤ n1 ∧ (∀ q, q < j → (hqx : q < xs.length) → (hqy : q < ys.length) → Pl.small (bl xs[q]) = Pl.small (bl ys[q])) ∧ Ext w2 wr) (fun _ i _ => n1 - (intOf i).toNat)
      case atStart => exact ⟨0, rfl, by omega, fun q hq => by omega, Ext.refl _⟩
      case round =>
        obtain ⟨j, rfl, hj, hall, hb⟩ := hrel
        have HALL := Lib.hid hall; clear hall
        by_cases hlt : j < n1
        · have hjy : j < ys.length := by rw [HRY.out.1]; exact hlt
          have hjx : j < xs.length := by rw [HRX.out.1]; exact hlt
          obtain ⟨ad2, rfl, hcy⟩ := (HRY.out.ext hb).2.2 j hjy
          obtain ⟨ad1, rfl, hcx⟩ := (HRX.out.ext (HB2.out.tr hb)).2.2 j hjx
          obtain ⟨y, hy⟩ : ∃ y, y = ys[j] := ⟨_, rfl⟩
          obtain ⟨x, hx⟩ : ∃ x, x = xs[j] := ⟨_, rfl⟩
          rw [← hy] at hcy
          rw [← hx] at hcx
          have hzx : x.size ≤ 2147483647 := by
            have h1 := Pl.name_all HN.out (bl x) (by rw [← HXS.out, hx]; exact List.mem_map.2 ⟨_, List.getElem_mem hjx, rfl⟩)
            have h2 := Pl.okLab_len h1
            rw [bl_length] at h2; omega
          have hzy : y.size ≤ 2147483647 := by
            have h1 := Pl.name_all HC.out (bl y) (by rw [← HYS.out, hy]; exact List.mem_map.2 ⟨_, List.getElem_mem hjy, rfl⟩)
            have h2 := Pl.okLab_len h1
            rw [bl_length] at h2; omega
          have HXJ := Lib.hid hx; have HYJ := Lib.hid hy; clear hx hy
          have hi1 : (j : Int) < ((n1 : Nat) : Int) := by omega
          have HKE : Hid (∀ w', Ext wr w' → (Ext wr w' ∧ w'.cell? (ad1.add j) = some (.string x) ∧ w'.cell? (ad2.add j) = some (.string y))) := fun w' h => ⟨h, h.cell hcx, h.cell hcy⟩
          cases hm : (Pl.small (bl x) == Pl.small (bl y)) with
          | true =>
            go_wp2
            go_region_held3 (fun w' => Ext wr w' ∧ w'.cell? (ad1.add j) = some (.string x) ∧ w'.cell? (ad2.add j) = some (.string y)) (first | exact HKE.out _ (Ext.drew (Ext.refl _)) | exact HKE.out _ (by assumption)) ((go_at_call 32; (refine (small2 _ _ (by first | exact hzx | exact hzy)).mono ?_); rintro _ _ ⟨rfl, hx1⟩; have hy1 := Ext.tr (by first | assumption | exact And.left (by assumption)) hx1))
            go_wp2
            have HM := Lib.hid hm; clear hm
            go_roundw
            case rel =>
              refine ⟨j + 1, by go_num, by omega, fun q hq hqx hqy => ?_, hb.tr (by assumption)⟩
              rcases Nat.lt_or_ge q j with h | h
              · exact HALL.out q h hqx hqy
              · obtain rfl : q = j := by omega
                rw [← HXJ.out, ← HYJ.out]
                exact beq_iff_eq.1 HM.out
            case measure => simp [intOf]; omega
          | false =>
            go_wp2
            go_region_held3 (fun w' => Ext wr w' ∧ w'.cell? (ad1.add j) = some (.string x) ∧ w'.cell? (ad2.add j) = some (.string y)) (first | exact HKE.out _ (Ext.drew (Ext.refl _)) | exact HKE.out _ (by assumption)) ((go_at_call 32; (refine (small2 _ _ (by first | exact hzx | exact hzy)).mono ?_); rintro _ _ ⟨rfl, hx1⟩; have hy1 := Ext.tr (by first | assumption | exact And.left (by assumption)) hx1))
            go_wp2
            have HM := Lib.hid hm; clear hm
            go_ret
            refine ⟨ret_bool ?_, (HB1.out.tr HB2.out).tr (hb.tr (by assumption))⟩
            unfold domP
            rw [eq_comm, beq_eq_false_iff_ne, ← HXS.out, ← HYS.out]
            intro h
            have h3 : ((xs.map bl).map Pl.small)[j]? = ((ys.map bl).map Pl.small)[j]? := by rw [h]
            rw [List.getElem?_map, List.getElem?_map, List.getElem?_map, List.getElem?_map, List.getElem?_eq_getElem hjx, List.getElem?_eq_getElem hjy, ← HXJ.out, ← HYJ.out] at h3
            have h4 : Pl.small (bl x) = Pl.small (bl y) := by simpa using h3
            have h5 := HM.out
            rw [h4, beq_self_eq_true] at h5
            cases h5
        · obtain rfl : j = n1 := by omega
          go_wp2
          go_ret
          refine ⟨ret_bool ?_, (HB1.out.tr HB2.out).tr hb⟩
          unfold domP
          rw [eq_comm, beq_iff_eq, ← HXS.out, ← HYS.out]
          refine List.ext_getElem (by simp [HRX.out.1, HRY.out.1]) fun i h1 h2 => ?_
          rw [List.getElem_map, List.getElem_map, List.getElem_map, List.getElem_map]
          have hi : i < xs.length := by simpa using h1
          exact HALL.out i (by rw [← HRX.out.1]; exact hi) hi (by rw [HRY.out.1, ← HRX.out.1]; exact hi)
    · have hlen2 : ¬ (n1 : Int) = (n2 : Int) := by omega
      go_wp2
      go_ret
      refine ⟨ret_bool ?_, HB1.out.tr HB2.out⟩
      unfold domP
      rw [eq_comm, beq_eq_false_iff_ne]
      intro h
      have h2 := congrArg List.length h
      rw [List.length_map, List.length_map, HL1.out, HL2.out] at h2
      exact hlen h2
end Go.Proofs.YtnefafkdfcmmfaaGreatDoor
