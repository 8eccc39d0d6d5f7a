/- The walk of matchDomainConstraint. -/
import Derived.Test.YtnefafkdfcmmfaaGreatDoorChk
import Derived.Test.YtnefafkdfcmmfaaGreatDoorPlain4
namespace Go.Proofs.YtnefafkdfcmmfaaGreatDoor
open Go.RowKit

theorem fold_any (s t : ByteArray) (w : World) (hs : s.size ≤ 2147483647) (h1 : vis (bl s)) (h2 : vis (bl t)) :
    Calls Tryz.prog 137 #[.string s, .string t] w (BoolPost (Pl.small (bl s) == Pl.small (bl t)) w) := by
  refine (Tryz.strings_EqualFold s t w (by omega) (vis_ascii h1) (vis_ascii h2)).mono ?_
  rintro e w' ⟨rfl, rfl⟩
  rw [← Pl.fold_small]
  exact ⟨rfl, Ext.refl _⟩
theorem get0 {s : ByteArray} {c : UInt8} {r : List UInt8} (h : bl s = c :: r) : ∃ hp : 0 < s.size, s[0] = c := by
  have hp : 0 < s.size := by rw [← bl_length, h]; simp
  exact ⟨hp, get_of (by rw [h]; rfl) hp⟩
theorem last_le (s : ByteArray) {k : Int} (hs : ∀ i, 0 < i → Pl.at_ (bl s) [42] i = false) (hk : (k = -1 ∧ Pl.has (bl s) (bl ⟨#[42]⟩) = false) ∨ (∃ i : Nat, k = i ∧ i + (⟨#[42]⟩ : ByteArray).size ≤ s.size ∧ Pl.at_ (bl s) (bl ⟨#[42]⟩) i = true ∧ ∀ j, i < j → j + (⟨#[42]⟩ : ByteArray).size ≤ s.size → Pl.at_ (bl s) (bl ⟨#[42]⟩) j = false)) : ¬ 0 < k := by
  rcases hk with ⟨rfl, _⟩ | ⟨i, rfl, _, ha, _⟩
  · omega
  · intro h0
    have := hs i (by omega)
    rw [show Pl.at_ (bl s) [42] i = Pl.at_ (bl s) (bl ⟨#[42]⟩) i from rfl, ha] at this
    cases this

set_option maxHeartbeats 2000000 in
set_option maxRecDepth 100000 in
theorem matchD_plain_name (g : Nat) (lit : Bool) (d c : ByteArray) (w : World) (hE : w.cell? ⟨g, 1, none⟩ = some (.bool lit)) (hsd : d.size ≤ 1000) (hsc : c.size ≤ 1000) (hd : Pl.isName (bl d) = true) (hc : Pl.isName (bl c) = true) :
    Calls Tryz.prog 101 #[.pointer (some ⟨g, 0, none⟩), .string d, .string c] w (MatchPost (((Pl.splitDot (bl d)).drop 0).map Pl.small == (Pl.labs (bl c)).map Pl.small) w) := by
  have hdom : Pl.DomN (bl d) := .inl hd
  obtain ⟨x0, r0, e0, l0⟩ := Pl.name_head hd
  obtain ⟨hd0, hg0⟩ := get0 e0
  have b46 : (((d[0]).toNat : Int) == 46) = false := by have := (Pl.let_ne x0 l0).1; rw [hg0]; simp only [beq_eq_false_iff_ne, ne_eq]; intro h; exact this (UInt8.toNat_inj.1 (by show x0.toNat = 46; omega))
  have b42 : (((d[0]).toNat : Int) == 42) = false := by have := (Pl.let_ne x0 l0).2; rw [hg0]; simp only [beq_eq_false_iff_ne, ne_eq]; intro h; exact this (UInt8.toNat_inj.1 (by show x0.toNat = 42; omega))
  have hpre : Lib.hasPrefix d.data.toList (ByteArray.data ⟨#[42, 46]⟩).toList = false := by show Lib.hasPrefix (bl d) [42, 46] = false; have := (Pl.let_ne x0 l0).2; rw [e0]; simp [Lib.hasPrefix, List.isPrefixOf, Ne.symm this]
  clear hg0 e0 l0
  have hcon : Pl.ConN (bl c) := .inl hc
  obtain ⟨x1, r1, e1, l1⟩ := Pl.name_head hc
  obtain ⟨hc0, hgc⟩ := get0 e1
  have k46 : (((c[0]).toNat : Int) == 46) = false := by have := (Pl.let_ne x1 l1).1; rw [hgc]; simp only [beq_eq_false_iff_ne, ne_eq]; intro h; exact this (UInt8.toNat_inj.1 (by show x1.toNat = 46; omega))
  have hcn : Pl.isName (bl c) = true := hc
  have hlabs : Pl.labs (bl c) = Pl.splitDot (bl c) := Pl.name_labs hc
  clear e1 l1
  have HNO : Hid (Pl.has (bl c) (bl ⟨#[46, 46]⟩) = false) := Pl.con_nodd hcon
  obtain ⟨hcn0, hcn1⟩ : ¬ c.toList = [] ∧ c.toList.isEmpty = false := nonempty_list (by intro h; have h2 := bl_length c; rw [h] at h2; simp at h2; omega)
  have hdn0 : (d.toList == [32]) = false := by rw [toList_bl, beq_eq_false_iff_ne]; intro h; have h2 := Pl.dom_vis hdom 32 (by rw [h]; simp); revert h2; decide
  have HD := Lib.hid hdom; have HST := Lib.hid (Pl.dom_star hdom); have HLB := Lib.hid hlabs; have HCN := Lib.hid hcn; have HPR := Lib.hid hpre
  clear hdom hlabs hcn hpre hcon hgc hd hc
  go_enter Tryz.func101, Tryz.ntmps101
  go_wp2_with fail
  refine (Tryz.strings_HasPrefix d _ _).mono ?_
  rintro e w1 ⟨rfl, rfl⟩
  rw [show Lib.hasPrefix d.data.toList (ByteArray.data ⟨#[42, 46]⟩).toList = false from HPR.out]
  go_wp2_with fail
  refine (zzLast_any d _ _ (by omega) (by show (1 : Nat) ≤ _; omega)).mono ?_
  rintro e w2 ⟨k, rfl, hk, hb2⟩
  have hk0 := last_le d HST.out hk
  clear hk
  have HX2 := Lib.hid hb2; clear hb2
  go_wp2_with fail
  all_goals
    refine (zzContains_any c _ w2 (by omega) (by show (2 : Nat) ≤ _; omega)).mono ?_
    rintro e w3 ⟨rfl, hb3⟩
    rw [HNO.out]
    have HX3 := Lib.hid (HX2.out.tr hb3); clear hb3
    go_wp2_with fail
    refine (Rev_any d w3 (by omega) (Pl.dom_labs HD.out).2.1 (Pl.dom_labs HD.out).2.2 (Pl.dom_vis HD.out)).mono ?_
    rintro e w4 ⟨A1, n1, cc1, xs, rfl, hrx, hxs, hzx, hb4⟩
    have HRX := Lib.hid hrx; have HXS := Lib.hid hxs; have HZX := Lib.hid hzx; have HX4 := Lib.hid (HX3.out.tr hb4); clear hrx hxs hzx hb4
    go_wp2_with fail
    refine (Rev_any c _ (by omega) (by rw [Pl.name_labs HCN.out]; exact Pl.splitDot_ne _) (by rw [Pl.name_labs HCN.out]; exact fun l hl => Pl.okLab_nil (Pl.name_all HCN.out l hl)) (Pl.dom_vis (.inl HCN.out))).mono ?_
    rintro e w5 ⟨A2, n2, k2, ys, rfl, hry, hys, hzy, hb5⟩
    have HRY := Lib.hid hry; have HYS := Lib.hid hys; have HZY := Lib.hid hzy; have HX5 := Lib.hid (HX4.out.tr hb5); have HB5 := Lib.hid hb5; clear hry hys hzy hb5
    have HL1 : Hid ((Pl.splitDot (bl d)).length = n1) := by unfold Hid; rw [← HRX.out.1, ← List.length_map (f := bl), HXS.out, List.length_reverse, (Pl.dom_labs HD.out).1]
    have HL2 : Hid ((Pl.splitDot (bl c)).length = n2) := by unfold Hid; rw [← HRY.out.1, ← List.length_map (f := bl), HYS.out, List.length_reverse, Pl.name_labs HCN.out]
    have hn1 := HRX.out.2.1
    have hn2 := HRY.out.2.1
    by_cases hlen : n1 = n2 + 0
    · have HLN := Lib.hid hlen
      have h0 : n2 = n1 := by omega
      clear hlen HLN
      subst h0
      go_wp2
      obtain ⟨wo, hwo⟩ : ∃ wo : World, wo = w5 := ⟨_, rfl⟩
      go_loopw [13, 14, 76] (fun _ _ i wr => ∃ j : Nat, i = .int .i64 j ∧ j ≤ n2 ∧ (∀ q, (hq : q < j) → (hqx : q < xs.length) → (hqy : q < ys.length) → Pl.small (bl xs[q]) = Pl.small (bl ys[q])) ∧ Ext w5 wr) (fun _ _ i _ => n2 - (intOf i).toNat)
      case atStart => exact ⟨0, rfl, by omega, fun q hq => by omega, Ext.refl _⟩
      case round =>
        obtain ⟨j, rfl, hj, hall, hb⟩ := hrel
        have HALL := Lib.hid hall; clear hall
        by_cases hlt : j < n2
        · have hjy : j < ys.length := by rw [HRY.out.1]; exact hlt
          have hjx : j < xs.length := by rw [HRX.out.1]; omega
          obtain ⟨ad2, rfl, hcy⟩ := (HRY.out.ext hb).2.2 j hjy
          obtain ⟨ad1, rfl, hcx⟩ := (HRX.out.ext (HB5.out.tr hb)).2.2 j hjx
          obtain ⟨y, hy⟩ : ∃ y, y = ys[j] := ⟨_, rfl⟩
          obtain ⟨x, hx⟩ : ∃ x, x = xs[j] := ⟨_, rfl⟩
          rw [← hy] at hcy
          rw [← hx] at hcx
          have hym : y ∈ ys := by rw [hy]; exact List.getElem_mem hjy
          have hxm : x ∈ xs := by rw [hx]; exact List.getElem_mem hjx
          have HXJ := Lib.hid hx; have HYJ := Lib.hid hy; clear hx hy
          have hvy : vis (bl y) := fun z hz => Pl.dom_vis (.inl HCN.out) z (Pl.labs_mem (bl y) (by rw [← List.mem_reverse, ← HYS.out]; exact List.mem_map.2 ⟨y, hym, rfl⟩) z hz)
          have hvx : vis (bl x) := fun z hz => Pl.dom_vis HD.out z (Pl.labs_mem (bl x) (by rw [← List.mem_reverse, ← HXS.out]; exact List.mem_map.2 ⟨x, hxm, rfl⟩) z hz)
          have HVX := Lib.hid hvx; have HVY := Lib.hid hvy; clear hvx hvy
          have hzy : y.size ≤ 2147483647 := by have := HZY.out y hym; omega
          clear hym hxm
          have hi1 : (j : Int) < ((n2 : Nat) : Int) := by omega
          have hi2 : (j : Int) < ((n2 + 0 : Nat) : Int) := by omega
          go_wp2_with fail
          refine (fold_any y x _ hzy HVY.out HVX.out).mono ?_
          rintro e w6 ⟨rfl, hb6⟩
          cases hm : (Pl.small (bl y) == Pl.small (bl x)) with
          | true =>
            have HM := Lib.hid hm; clear hm
            go_wp2
            go_roundw
            case rel =>
              refine ⟨j + 1, by go_num, by omega, fun q hq hqx hqy => ?_, hb.tr hb6⟩
              rcases Nat.lt_or_ge q j with h | h
              · exact HALL.out q h hqx hqy
              · obtain rfl : q = j := by omega
                rw [← HXJ.out, ← HYJ.out]
                exact (beq_iff_eq.1 HM.out).symm
            case measure => simp [intOf]; omega
          | false =>
            have HM := Lib.hid hm; clear hm
            go_wp2
            go_ret2
            refine ⟨ret_tup2 (congrArg Value.bool ?_) rfl, HX5.out.tr (hb.tr hb6)⟩
            rw [HLB.out, eq_comm]
            cases hz : (((Pl.splitDot (bl d)).drop 0).map Pl.small == (Pl.splitDot (bl c)).map Pl.small) with
            | false => rfl
            | true =>
              exfalso
              have h3 := (Pl.rev_match _ _ _ (by rw [HL1.out, HL2.out, Nat.add_zero])).1 hz j (by rw [HL2.out]; exact hlt)
              have h4 := HM.out
              rw [beq_eq_false_iff_ne, ne_eq] at h4
              apply h4
              have hx2 : (Pl.splitDot (bl d)).reverse[j]? = some (bl x) := by rw [← (Pl.dom_labs HD.out).1, ← HXS.out, List.getElem?_map, List.getElem?_eq_getElem hjx, ← HXJ.out]; rfl
              have hy2 : (Pl.splitDot (bl c)).reverse[j]? = some (bl y) := by rw [← Pl.name_labs HCN.out, ← HYS.out, List.getElem?_map, List.getElem?_eq_getElem hjy, ← HYJ.out]; rfl
              rw [(List.getElem?_eq_some_iff.1 hx2).2, (List.getElem?_eq_some_iff.1 hy2).2] at h3
              exact h3.symm
        · obtain rfl : j = n2 := by omega
          go_wp2
          go_ret2
          refine ⟨ret_tup2 (congrArg Value.bool ?_) rfl, HX5.out.tr hb⟩
          rw [HLB.out]
          refine ((Pl.rev_match _ _ _ (by rw [HL1.out, HL2.out, Nat.add_zero])).2 fun q hq => ?_).symm
          rw [HL2.out] at hq
          have hqy : q < ys.length := by rw [HRY.out.1]; exact hq
          have hqx : q < xs.length := by rw [HRX.out.1]; omega
          have hx2 : (Pl.splitDot (bl d)).reverse[q]? = some (bl xs[q]) := by rw [← (Pl.dom_labs HD.out).1, ← HXS.out, List.getElem?_map, List.getElem?_eq_getElem hqx]; rfl
          have hy2 : (Pl.splitDot (bl c)).reverse[q]? = some (bl ys[q]) := by rw [← Pl.name_labs HCN.out, ← HYS.out, List.getElem?_map, List.getElem?_eq_getElem hqy]; rfl
          rw [(List.getElem?_eq_some_iff.1 hx2).2, (List.getElem?_eq_some_iff.1 hy2).2]
          exact HALL.out q hq hqx hqy
    · have hlen2 : ¬ (n1 : Int) = ((n2 : Nat) : Int) := by omega
      go_wp2
      go_ret2
      refine ⟨ret_tup2 (congrArg Value.bool ?_) rfl, HX5.out⟩
      rw [HLB.out, eq_comm, beq_eq_false_iff_ne]
      intro h
      have h2 := congrArg List.length h
      rw [List.length_map, List.length_map, List.length_drop, HL1.out, HL2.out] at h2
      have : 0 < n1 := by rw [← HL1.out]; exact List.length_pos_iff.2 (Pl.splitDot_ne _)
      omega
set_option maxHeartbeats 2000000 in
set_option maxRecDepth 100000 in
theorem matchD_plain_dot (g : Nat) (lit : Bool) (d c : ByteArray) (w : World) (hE : w.cell? ⟨g, 1, none⟩ = some (.bool lit)) (hsd : d.size ≤ 1000) (hsc : c.size ≤ 1000) (hd : Pl.isName (bl d) = true) (q : List UInt8) (hc : bl c = 46 :: q) (hq : Pl.isName q = true) :
    Calls Tryz.prog 101 #[.pointer (some ⟨g, 0, none⟩), .string d, .string c] w (MatchPost (((Pl.splitDot (bl d)).drop 1).map Pl.small == (Pl.labs (bl c)).map Pl.small) w) := by
  have hdom : Pl.DomN (bl d) := .inl hd
  obtain ⟨x0, r0, e0, l0⟩ := Pl.name_head hd
  obtain ⟨hd0, hg0⟩ := get0 e0
  have b46 : (((d[0]).toNat : Int) == 46) = false := by have := (Pl.let_ne x0 l0).1; rw [hg0]; simp only [beq_eq_false_iff_ne, ne_eq]; intro h; exact this (UInt8.toNat_inj.1 (by show x0.toNat = 46; omega))
  have b42 : (((d[0]).toNat : Int) == 42) = false := by have := (Pl.let_ne x0 l0).2; rw [hg0]; simp only [beq_eq_false_iff_ne, ne_eq]; intro h; exact this (UInt8.toNat_inj.1 (by show x0.toNat = 42; omega))
  have hpre : Lib.hasPrefix d.data.toList (ByteArray.data ⟨#[42, 46]⟩).toList = false := by show Lib.hasPrefix (bl d) [42, 46] = false; have := (Pl.let_ne x0 l0).2; rw [e0]; simp [Lib.hasPrefix, List.isPrefixOf, Ne.symm this]
  clear hg0 e0 l0
  have hcon : Pl.ConN (bl c) := .inr ⟨q, hc, hq⟩
  obtain ⟨hc0, hgc⟩ := get0 hc
  have k46 : (((c[0]).toNat : Int) == 46) = true := by rw [hgc]; decide
  obtain ⟨c2, hc2⟩ : ∃ y, y = c.extract 1 c.size := ⟨_, rfl⟩
  have hb2 : bl c2 = q := by rw [hc2, bl_extract, hc]; simp [← bl_length, hc]
  have hsc2 : c2.size ≤ 1000 := by rw [← bl_length, hb2]; rw [← bl_length, hc] at hsc; simp at hsc; omega
  have hlabs : Pl.labs (bl c) = Pl.splitDot (bl c2) := by rw [hc, hb2]; exact Pl.labs_dot q
  have hcn : Pl.isName (bl c2) = true := by rw [hb2]; exact hq
  have h1c : (1 : Int) ≤ (c.size : Int) := by omega
  have HNO : Hid (Pl.has (bl c) (bl ⟨#[46, 46]⟩) = false) := Pl.con_nodd hcon
  obtain ⟨hcn0, hcn1⟩ : ¬ c.toList = [] ∧ c.toList.isEmpty = false := nonempty_list (by intro h; have h2 := bl_length c; rw [h] at h2; simp at h2; omega)
  have hdn0 : (d.toList == [32]) = false := by rw [toList_bl, beq_eq_false_iff_ne]; intro h; have h2 := Pl.dom_vis hdom 32 (by rw [h]; simp); revert h2; decide
  have HD := Lib.hid hdom; have HST := Lib.hid (Pl.dom_star hdom); have HLB := Lib.hid hlabs; have HCN := Lib.hid hcn; have HC2 := Lib.hid hc2; have HPR := Lib.hid hpre
  clear hdom hlabs hcn hpre hcon hgc hd hc hq hb2
  go_enter Tryz.func101, Tryz.ntmps101
  go_wp2_with fail
  refine (Tryz.strings_HasPrefix d _ _).mono ?_
  rintro e w1 ⟨rfl, rfl⟩
  rw [show Lib.hasPrefix d.data.toList (ByteArray.data ⟨#[42, 46]⟩).toList = false from HPR.out]
  go_wp2_with fail
  refine (zzLast_any d _ _ (by omega) (by show (1 : Nat) ≤ _; omega)).mono ?_
  rintro e w2 ⟨k, rfl, hk, hb2⟩
  have hk0 := last_le d HST.out hk
  clear hk
  have HX2 := Lib.hid hb2; clear hb2
  go_wp2_with fail
  all_goals
    refine (zzContains_any c _ w2 (by omega) (by show (2 : Nat) ≤ _; omega)).mono ?_
    rintro e w3 ⟨rfl, hb3⟩
    rw [HNO.out]
    have HX3 := Lib.hid (HX2.out.tr hb3); clear hb3
    go_wp2_with fail
    refine (Rev_any d w3 (by omega) (Pl.dom_labs HD.out).2.1 (Pl.dom_labs HD.out).2.2 (Pl.dom_vis HD.out)).mono ?_
    rintro e w4 ⟨A1, n1, cc1, xs, rfl, hrx, hxs, hzx, hb4⟩
    have HRX := Lib.hid hrx; have HXS := Lib.hid hxs; have HZX := Lib.hid hzx; have HX4 := Lib.hid (HX3.out.tr hb4); clear hrx hxs hzx hb4
    go_wp2_with fail
    rw [← HC2.out]
    refine (Rev_any c2 _ (by omega) (by rw [Pl.name_labs HCN.out]; exact Pl.splitDot_ne _) (by rw [Pl.name_labs HCN.out]; exact fun l hl => Pl.okLab_nil (Pl.name_all HCN.out l hl)) (Pl.dom_vis (.inl HCN.out))).mono ?_
    rintro e w5 ⟨A2, n2, cc2, ys, rfl, hry, hys, hzy, hb5⟩
    have HRY := Lib.hid hry; have HYS := Lib.hid hys; have HZY := Lib.hid hzy; have HX5 := Lib.hid (HX4.out.tr hb5); have HB5 := Lib.hid hb5; clear hry hys hzy hb5
    have HL1 : Hid ((Pl.splitDot (bl d)).length = n1) := by unfold Hid; rw [← HRX.out.1, ← List.length_map (f := bl), HXS.out, List.length_reverse, (Pl.dom_labs HD.out).1]
    have HL2 : Hid ((Pl.splitDot (bl c2)).length = n2) := by unfold Hid; rw [← HRY.out.1, ← List.length_map (f := bl), HYS.out, List.length_reverse, Pl.name_labs HCN.out]
    have hn1 := HRX.out.2.1
    have hn2 := HRY.out.2.1
    have hwr : IntKind.i64.wrap ((n2 : Int) + 1) = ((n2 + 1 : Nat) : Int) := by rw [IntWalk.i64_in _ (by omega)]; rfl
    by_cases hlen : n1 = n2 + 1
    · have HLN := Lib.hid hlen
      clear HLN
      subst hlen
      go_wp2
      obtain ⟨wo, hwo⟩ : ∃ wo : World, wo = w5 := ⟨_, rfl⟩
      go_loopw [13, 14, 76] (fun _ _ i wr => ∃ j : Nat, i = .int .i64 j ∧ j ≤ n2 ∧ (∀ q, (hq : q < j) → (hqx : q < xs.length) → (hqy : q < ys.length) → Pl.small (bl xs[q]) = Pl.small (bl ys[q])) ∧ Ext w5 wr) (fun _ _ i _ => n2 - (intOf i).toNat)
      case atStart => exact ⟨0, rfl, by omega, fun q hq => by omega, Ext.refl _⟩
      case round =>
        obtain ⟨j, rfl, hj, hall, hb⟩ := hrel
        have HALL := Lib.hid hall; clear hall
        by_cases hlt : j < n2
        · have hjy : j < ys.length := by rw [HRY.out.1]; exact hlt
          have hjx : j < xs.length := by rw [HRX.out.1]; omega
          obtain ⟨ad2, rfl, hcy⟩ := (HRY.out.ext hb).2.2 j hjy
          obtain ⟨ad1, rfl, hcx⟩ := (HRX.out.ext (HB5.out.tr hb)).2.2 j hjx
          obtain ⟨y, hy⟩ : ∃ y, y = ys[j] := ⟨_, rfl⟩
          obtain ⟨x, hx⟩ : ∃ x, x = xs[j] := ⟨_, rfl⟩
          rw [← hy] at hcy
          rw [← hx] at hcx
          have hym : y ∈ ys := by rw [hy]; exact List.getElem_mem hjy
          have hxm : x ∈ xs := by rw [hx]; exact List.getElem_mem hjx
          have HXJ := Lib.hid hx; have HYJ := Lib.hid hy; clear hx hy
          have hvy : vis (bl y) := fun z hz => Pl.dom_vis (.inl HCN.out) z (Pl.labs_mem (bl y) (by rw [← List.mem_reverse, ← HYS.out]; exact List.mem_map.2 ⟨y, hym, rfl⟩) z hz)
          have hvx : vis (bl x) := fun z hz => Pl.dom_vis HD.out z (Pl.labs_mem (bl x) (by rw [← List.mem_reverse, ← HXS.out]; exact List.mem_map.2 ⟨x, hxm, rfl⟩) z hz)
          have HVX := Lib.hid hvx; have HVY := Lib.hid hvy; clear hvx hvy
          have hzy : y.size ≤ 2147483647 := by have := HZY.out y hym; omega
          clear hym hxm
          have hi1 : (j : Int) < ((n2 : Nat) : Int) := by omega
          have hi2 : (j : Int) < ((n2 + 1 : Nat) : Int) := by omega
          go_wp2_with fail
          refine (fold_any y x _ hzy HVY.out HVX.out).mono ?_
          rintro e w6 ⟨rfl, hb6⟩
          cases hm : (Pl.small (bl y) == Pl.small (bl x)) with
          | true =>
            have HM := Lib.hid hm; clear hm
            go_wp2
            go_roundw
            case rel =>
              refine ⟨j + 1, by go_num, by omega, fun q hq hqx hqy => ?_, hb.tr hb6⟩
              rcases Nat.lt_or_ge q j with h | h
              · exact HALL.out q h hqx hqy
              · obtain rfl : q = j := by omega
                rw [← HXJ.out, ← HYJ.out]
                exact (beq_iff_eq.1 HM.out).symm
            case measure => simp [intOf]; omega
          | false =>
            have HM := Lib.hid hm; clear hm
            go_wp2
            go_ret2
            refine ⟨ret_tup2 (congrArg Value.bool ?_) rfl, HX5.out.tr (hb.tr hb6)⟩
            rw [HLB.out, eq_comm]
            cases hz : (((Pl.splitDot (bl d)).drop 1).map Pl.small == (Pl.splitDot (bl c2)).map Pl.small) with
            | false => rfl
            | true =>
              exfalso
              have h3 := (Pl.rev_match _ _ _ (by rw [HL1.out, HL2.out])).1 hz j (by rw [HL2.out]; exact hlt)
              have h4 := HM.out
              rw [beq_eq_false_iff_ne, ne_eq] at h4
              apply h4
              have hx2 : (Pl.splitDot (bl d)).reverse[j]? = some (bl x) := by rw [← (Pl.dom_labs HD.out).1, ← HXS.out, List.getElem?_map, List.getElem?_eq_getElem hjx, ← HXJ.out]; rfl
              have hy2 : (Pl.splitDot (bl c2)).reverse[j]? = some (bl y) := by rw [← Pl.name_labs HCN.out, ← HYS.out, List.getElem?_map, List.getElem?_eq_getElem hjy, ← HYJ.out]; rfl
              rw [(List.getElem?_eq_some_iff.1 hx2).2, (List.getElem?_eq_some_iff.1 hy2).2] at h3
              exact h3.symm
        · obtain rfl : j = n2 := by omega
          go_wp2
          go_ret2
          refine ⟨ret_tup2 (congrArg Value.bool ?_) rfl, HX5.out.tr hb⟩
          rw [HLB.out]
          refine ((Pl.rev_match _ _ _ (by rw [HL1.out, HL2.out])).2 fun q hq => ?_).symm
          rw [HL2.out] at hq
          have hqy : q < ys.length := by rw [HRY.out.1]; exact hq
          have hqx : q < xs.length := by rw [HRX.out.1]; omega
          have hx2 : (Pl.splitDot (bl d)).reverse[q]? = some (bl xs[q]) := by rw [← (Pl.dom_labs HD.out).1, ← HXS.out, List.getElem?_map, List.getElem?_eq_getElem hqx]; rfl
          have hy2 : (Pl.splitDot (bl c2)).reverse[q]? = some (bl ys[q]) := by rw [← Pl.name_labs HCN.out, ← HYS.out, List.getElem?_map, List.getElem?_eq_getElem hqy]; rfl
          rw [(List.getElem?_eq_some_iff.1 hx2).2, (List.getElem?_eq_some_iff.1 hy2).2]
          exact HALL.out q hq hqx hqy
    · have hlen2 : ¬ (n1 : Int) = ((n2 + 1 : Nat) : Int) := by omega
      go_wp2
      go_ret2
      refine ⟨ret_tup2 (congrArg Value.bool ?_) rfl, HX5.out⟩
      rw [HLB.out, eq_comm, beq_eq_false_iff_ne]
      intro h
      have h2 := congrArg List.length h
      rw [List.length_map, List.length_map, List.length_drop, HL1.out, HL2.out] at h2
      have : 0 < n1 := by rw [← HL1.out]; exact List.length_pos_iff.2 (Pl.splitDot_ne _)
      omega
set_option maxHeartbeats 2000000 in
set_option maxRecDepth 100000 in
theorem matchD_star_name (g : Nat) (lit : Bool) (d c : ByteArray) (w : World) (hE : w.cell? ⟨g, 1, none⟩ = some (.bool lit)) (hsd : d.size ≤ 1000) (hsc : c.size ≤ 1000) (r : List UInt8) (hd : bl d = 42 :: 46 :: r) (hr : Pl.isName r = true) (hlit : lit = true) (hc : Pl.isName (bl c) = true) :
    Calls Tryz.prog 101 #[.pointer (some ⟨g, 0, none⟩), .string d, .string c] w (MatchPost (((Pl.splitDot (bl d)).drop 0).map Pl.small == (Pl.labs (bl c)).map Pl.small) w) := by
  have hdom : Pl.DomN (bl d) := .inr ⟨r, hd, hr⟩
  obtain ⟨hd0, hg0⟩ := get0 hd
  have hd1 : 1 < d.size := by rw [← bl_length, hd]; simp
  have hg1 : d[1] = 46 := get_of (by rw [hd]; rfl) hd1
  have b46 : (((d[0]).toNat : Int) == 46) = false := by rw [hg0]; decide
  have b42 : (((d[0]).toNat : Int) == 42) = true := by rw [hg0]; decide
  have b1 : (((d[1]).toNat : Int) == 46) = true := by rw [hg1]; decide
  have hpre : Lib.hasPrefix d.data.toList (ByteArray.data ⟨#[42, 46]⟩).toList = true := by show Lib.hasPrefix (bl d) [42, 46] = true; rw [hd]; rfl
  subst hlit
  clear hg0 hg1
  have hcon : Pl.ConN (bl c) := .inl hc
  obtain ⟨x1, r1, e1, l1⟩ := Pl.name_head hc
  obtain ⟨hc0, hgc⟩ := get0 e1
  have k46 : (((c[0]).toNat : Int) == 46) = false := by have := (Pl.let_ne x1 l1).1; rw [hgc]; simp only [beq_eq_false_iff_ne, ne_eq]; intro h; exact this (UInt8.toNat_inj.1 (by show x1.toNat = 46; omega))
  have hcn : Pl.isName (bl c) = true := hc
  have hlabs : Pl.labs (bl c) = Pl.splitDot (bl c) := Pl.name_labs hc
  clear e1 l1
  have HNO : Hid (Pl.has (bl c) (bl ⟨#[46, 46]⟩) = false) := Pl.con_nodd hcon
  obtain ⟨hcn0, hcn1⟩ : ¬ c.toList = [] ∧ c.toList.isEmpty = false := nonempty_list (by intro h; have h2 := bl_length c; rw [h] at h2; simp at h2; omega)
  have hdn0 : (d.toList == [32]) = false := by rw [toList_bl, beq_eq_false_iff_ne]; intro h; have h2 := Pl.dom_vis hdom 32 (by rw [h]; simp); revert h2; decide
  have HD := Lib.hid hdom; have HST := Lib.hid (Pl.dom_star hdom); have HLB := Lib.hid hlabs; have HCN := Lib.hid hcn; have HPR := Lib.hid hpre
  clear hdom hlabs hcn hpre hcon hgc hd hr hc
  go_enter Tryz.func101, Tryz.ntmps101
  go_wp2_with fail
  refine (Tryz.strings_HasPrefix d _ _).mono ?_
  rintro e w1 ⟨rfl, rfl⟩
  rw [show Lib.hasPrefix d.data.toList (ByteArray.data ⟨#[42, 46]⟩).toList = true from HPR.out]
  go_wp2_with fail
  refine (zzLast_any d _ _ (by omega) (by show (1 : Nat) ≤ _; omega)).mono ?_
  rintro e w2 ⟨k, rfl, hk, hb2⟩
  have hk0 := last_le d HST.out hk
  clear hk
  have HX2 := Lib.hid hb2; clear hb2
  go_wp2_with fail
  all_goals
    refine (zzContains_any c _ w2 (by omega) (by show (2 : Nat) ≤ _; omega)).mono ?_
    rintro e w3 ⟨rfl, hb3⟩
    rw [HNO.out]
    have HX3 := Lib.hid (HX2.out.tr hb3); clear hb3
    go_wp2_with fail
    refine (Rev_any d w3 (by omega) (Pl.dom_labs HD.out).2.1 (Pl.dom_labs HD.out).2.2 (Pl.dom_vis HD.out)).mono ?_
    rintro e w4 ⟨A1, n1, cc1, xs, rfl, hrx, hxs, hzx, hb4⟩
    have HRX := Lib.hid hrx; have HXS := Lib.hid hxs; have HZX := Lib.hid hzx; have HX4 := Lib.hid (HX3.out.tr hb4); clear hrx hxs hzx hb4
    go_wp2_with fail
    refine (Rev_any c _ (by omega) (by rw [Pl.name_labs HCN.out]; exact Pl.splitDot_ne _) (by rw [Pl.name_labs HCN.out]; exact fun l hl => Pl.okLab_nil (Pl.name_all HCN.out l hl)) (Pl.dom_vis (.inl HCN.out))).mono ?_
    rintro e w5 ⟨A2, n2, k2, ys, rfl, hry, hys, hzy, hb5⟩
    have HRY := Lib.hid hry; have HYS := Lib.hid hys; have HZY := Lib.hid hzy; have HX5 := Lib.hid (HX4.out.tr hb5); have HB5 := Lib.hid hb5; clear hry hys hzy hb5
    have HL1 : Hid ((Pl.splitDot (bl d)).length = n1) := by unfold Hid; rw [← HRX.out.1, ← List.length_map (f := bl), HXS.out, List.length_reverse, (Pl.dom_labs HD.out).1]
    have HL2 : Hid ((Pl.splitDot (bl c)).length = n2) := by unfold Hid; rw [← HRY.out.1, ← List.length_map (f := bl), HYS.out, List.length_reverse, Pl.name_labs HCN.out]
    have hn1 := HRX.out.2.1
    have hn2 := HRY.out.2.1
    by_cases hlen : n1 = n2 + 0
    · have HLN := Lib.hid hlen
      have h0 : n2 = n1 := by omega
      clear hlen HLN
      subst h0
      go_wp2
      obtain ⟨wo, hwo⟩ : ∃ wo : World, wo = w5 := ⟨_, rfl⟩
      go_loopw [13, 14, 76] (fun _ _ i wr => ∃ j : Nat, i = .int .i64 j ∧ j ≤ n2 ∧ (∀ q, (hq : q < j) → (hqx : q < xs.length) → (hqy : q < ys.length) → Pl.small (bl xs[q]) = Pl.small (bl ys[q])) ∧ Ext w5 wr) (fun _ _ i _ => n2 - (intOf i).toNat)
      case atStart => exact ⟨0, rfl, by omega, fun q hq => by omega, Ext.refl _⟩
      case round =>
        obtain ⟨j, rfl, hj, hall, hb⟩ := hrel
        have HALL := Lib.hid hall; clear hall
        by_cases hlt : j < n2
        · have hjy : j < ys.length := by rw [HRY.out.1]; exact hlt
          have hjx : j < xs.length := by rw [HRX.out.1]; omega
          obtain ⟨ad2, rfl, hcy⟩ := (HRY.out.ext hb).2.2 j hjy
          obtain ⟨ad1, rfl, hcx⟩ := (HRX.out.ext (HB5.out.tr hb)).2.2 j hjx
          obtain ⟨y, hy⟩ : ∃ y, y = ys[j] := ⟨_, rfl⟩
          obtain ⟨x, hx⟩ : ∃ x, x = xs[j] := ⟨_, rfl⟩
          rw [← hy] at hcy
          rw [← hx] at hcx
          have hym : y ∈ ys := by rw [hy]; exact List.getElem_mem hjy
          have hxm : x ∈ xs := by rw [hx]; exact List.getElem_mem hjx
          have HXJ := Lib.hid hx; have HYJ := Lib.hid hy; clear hx hy
          have hvy : vis (bl y) := fun z hz => Pl.dom_vis (.inl HCN.out) z (Pl.labs_mem (bl y) (by rw [← List.mem_reverse, ← HYS.out]; exact List.mem_map.2 ⟨y, hym, rfl⟩) z hz)
          have hvx : vis (bl x) := fun z hz => Pl.dom_vis HD.out z (Pl.labs_mem (bl x) (by rw [← List.mem_reverse, ← HXS.out]; exact List.mem_map.2 ⟨x, hxm, rfl⟩) z hz)
          have HVX := Lib.hid hvx; have HVY := Lib.hid hvy; clear hvx hvy
          have hzy : y.size ≤ 2147483647 := by have := HZY.out y hym; omega
          clear hym hxm
          have hi1 : (j : Int) < ((n2 : Nat) : Int) := by omega
          have hi2 : (j : Int) < ((n2 + 0 : Nat) : Int) := by omega
          go_wp2_with fail
          refine (fold_any y x _ hzy HVY.out HVX.out).mono ?_
          rintro e w6 ⟨rfl, hb6⟩
          cases hm : (Pl.small (bl y) == Pl.small (bl x)) with
          | true =>
            have HM := Lib.hid hm; clear hm
            go_wp2
            go_roundw
            case rel =>
              refine ⟨j + 1, by go_num, by omega, fun q hq hqx hqy => ?_, hb.tr hb6⟩
              rcases Nat.lt_or_ge q j with h | h
              · exact HALL.out q h hqx hqy
              · obtain rfl : q = j := by omega
                rw [← HXJ.out, ← HYJ.out]
                exact (beq_iff_eq.1 HM.out).symm
            case measure => simp [intOf]; omega
          | false =>
            have HM := Lib.hid hm; clear hm
            go_wp2
            go_ret2
            refine ⟨ret_tup2 (congrArg Value.bool ?_) rfl, HX5.out.tr (hb.tr hb6)⟩
            rw [HLB.out, eq_comm]
            cases hz : (((Pl.splitDot (bl d)).drop 0).map Pl.small == (Pl.splitDot (bl c)).map Pl.small) with
            | false => rfl
            | true =>
              exfalso
              have h3 := (Pl.rev_match _ _ _ (by rw [HL1.out, HL2.out, Nat.add_zero])).1 hz j (by rw [HL2.out]; exact hlt)
              have h4 := HM.out
              rw [beq_eq_false_iff_ne, ne_eq] at h4
              apply h4
              have hx2 : (Pl.splitDot (bl d)).reverse[j]? = some (bl x) := by rw [← (Pl.dom_labs HD.out).1, ← HXS.out, List.getElem?_map, List.getElem?_eq_getElem hjx, ← HXJ.out]; rfl
              have hy2 : (Pl.splitDot (bl c)).reverse[j]? = some (bl y) := by rw [← Pl.name_labs HCN.out, ← HYS.out, List.getElem?_map, List.getElem?_eq_getElem hjy, ← HYJ.out]; rfl
              rw [(List.getElem?_eq_some_iff.1 hx2).2, (List.getElem?_eq_some_iff.1 hy2).2] at h3
              exact h3.symm
        · obtain rfl : j = n2 := by omega
          go_wp2
          go_ret2
          refine ⟨ret_tup2 (congrArg Value.bool ?_) rfl, HX5.out.tr hb⟩
          rw [HLB.out]
          refine ((Pl.rev_match _ _ _ (by rw [HL1.out, HL2.out, Nat.add_zero])).2 fun q hq => ?_).symm
          rw [HL2.out] at hq
          have hqy : q < ys.length := by rw [HRY.out.1]; exact hq
          have hqx : q < xs.length := by rw [HRX.out.1]; omega
          have hx2 : (Pl.splitDot (bl d)).reverse[q]? = some (bl xs[q]) := by rw [← (Pl.dom_labs HD.out).1, ← HXS.out, List.getElem?_map, List.getElem?_eq_getElem hqx]; rfl
          have hy2 : (Pl.splitDot (bl c)).reverse[q]? = some (bl ys[q]) := by rw [← Pl.name_labs HCN.out, ← HYS.out, List.getElem?_map, List.getElem?_eq_getElem hqy]; rfl
          rw [(List.getElem?_eq_some_iff.1 hx2).2, (List.getElem?_eq_some_iff.1 hy2).2]
          exact HALL.out q hq hqx hqy
    · have hlen2 : ¬ (n1 : Int) = ((n2 : Nat) : Int) := by omega
      go_wp2
      go_ret2
      refine ⟨ret_tup2 (congrArg Value.bool ?_) rfl, HX5.out⟩
      rw [HLB.out, eq_comm, beq_eq_false_iff_ne]
      intro h
      have h2 := congrArg List.length h
      rw [List.length_map, List.length_map, List.length_drop, HL1.out, HL2.out] at h2
      have : 0 < n1 := by rw [← HL1.out]; exact List.length_pos_iff.2 (Pl.splitDot_ne _)
      omega
set_option maxHeartbeats 2000000 in
set_option maxRecDepth 100000 in
theorem matchD_star_dot (g : Nat) (lit : Bool) (d c : ByteArray) (w : World) (hE : w.cell? ⟨g, 1, none⟩ = some (.bool lit)) (hsd : d.size ≤ 1000) (hsc : c.size ≤ 1000) (r : List UInt8) (hd : bl d = 42 :: 46 :: r) (hr : Pl.isName r = true) (hlit : lit = true) (q : List UInt8) (hc : bl c = 46 :: q) (hq : Pl.isName q = true) :
    Calls Tryz.prog 101 #[.pointer (some ⟨g, 0, none⟩), .string d, .string c] w (MatchPost (((Pl.splitDot (bl d)).drop 1).map Pl.small == (Pl.labs (bl c)).map Pl.small) w) := by
  have hdom : Pl.DomN (bl d) := .inr ⟨r, hd, hr⟩
  obtain ⟨hd0, hg0⟩ := get0 hd
  have hd1 : 1 < d.size := by rw [← bl_length, hd]; simp
  have hg1 : d[1] = 46 := get_of (by rw [hd]; rfl) hd1
  have b46 : (((d[0]).toNat : Int) == 46) = false := by rw [hg0]; decide
  have b42 : (((d[0]).toNat : Int) == 42) = true := by rw [hg0]; decide
  have b1 : (((d[1]).toNat : Int) == 46) = true := by rw [hg1]; decide
  have hpre : Lib.hasPrefix d.data.toList (ByteArray.data ⟨#[42, 46]⟩).toList = true := by show Lib.hasPrefix (bl d) [42, 46] = true; rw [hd]; rfl
  subst hlit
  clear hg0 hg1
  have hcon : Pl.ConN (bl c) := .inr ⟨q, hc, hq⟩
  obtain ⟨hc0, hgc⟩ := get0 hc
  have k46 : (((c[0]).toNat : Int) == 46) = true := by rw [hgc]; decide
  obtain ⟨c2, hc2⟩ : ∃ y, y = c.extract 1 c.size := ⟨_, rfl⟩
  have hb2 : bl c2 = q := by rw [hc2, bl_extract, hc]; simp [← bl_length, hc]
  have hsc2 : c2.size ≤ 1000 := by rw [← bl_length, hb2]; rw [← bl_length, hc] at hsc; simp at hsc; omega
  have hlabs : Pl.labs (bl c) = Pl.splitDot (bl c2) := by rw [hc, hb2]; exact Pl.labs_dot q
  have hcn : Pl.isName (bl c2) = true := by rw [hb2]; exact hq
  have h1c : (1 : Int) ≤ (c.size : Int) := by omega
  have HNO : Hid (Pl.has (bl c) (bl ⟨#[46, 46]⟩) = false) := Pl.con_nodd hcon
  obtain ⟨hcn0, hcn1⟩ : ¬ c.toList = [] ∧ c.toList.isEmpty = false := nonempty_list (by intro h; have h2 := bl_length c; rw [h] at h2; simp at h2; omega)
  have hdn0 : (d.toList == [32]) = false := by rw [toList_bl, beq_eq_false_iff_ne]; intro h; have h2 := Pl.dom_vis hdom 32 (by rw [h]; simp); revert h2; decide
  have HD := Lib.hid hdom; have HST := Lib.hid (Pl.dom_star hdom); have HLB := Lib.hid hlabs; have HCN := Lib.hid hcn; have HC2 := Lib.hid hc2; have HPR := Lib.hid hpre
  clear hdom hlabs hcn hpre hcon hgc hd hr hc hq hb2
  go_enter Tryz.func101, Tryz.ntmps101
  go_wp2_with fail
  refine (Tryz.strings_HasPrefix d _ _).mono ?_
  rintro e w1 ⟨rfl, rfl⟩
  rw [show Lib.hasPrefix d.data.toList (ByteArray.data ⟨#[42, 46]⟩).toList = true from HPR.out]
  go_wp2_with fail
  refine (zzLast_any d _ _ (by omega) (by show (1 : Nat) ≤ _; omega)).mono ?_
  rintro e w2 ⟨k, rfl, hk, hb2⟩
  have hk0 := last_le d HST.out hk
  clear hk
  have HX2 := Lib.hid hb2; clear hb2
  go_wp2_with fail
  all_goals
    refine (zzContains_any c _ w2 (by omega) (by show (2 : Nat) ≤ _; omega)).mono ?_
    rintro e w3 ⟨rfl, hb3⟩
    rw [HNO.out]
    have HX3 := Lib.hid (HX2.out.tr hb3); clear hb3
    go_wp2_with fail
    refine (Rev_any d w3 (by omega) (Pl.dom_labs HD.out).2.1 (Pl.dom_labs HD.out).2.2 (Pl.dom_vis HD.out)).mono ?_
    rintro e w4 ⟨A1, n1, cc1, xs, rfl, hrx, hxs, hzx, hb4⟩
    have HRX := Lib.hid hrx; have HXS := Lib.hid hxs; have HZX := Lib.hid hzx; have HX4 := Lib.hid (HX3.out.tr hb4); clear hrx hxs hzx hb4
    go_wp2_with fail
    rw [← HC2.out]
    refine (Rev_any c2 _ (by omega) (by rw [Pl.name_labs HCN.out]; exact Pl.splitDot_ne _) (by rw [Pl.name_labs HCN.out]; exact fun l hl => Pl.okLab_nil (Pl.name_all HCN.out l hl)) (Pl.dom_vis (.inl HCN.out))).mono ?_
    rintro e w5 ⟨A2, n2, cc2, ys, rfl, hry, hys, hzy, hb5⟩
    have HRY := Lib.hid hry; have HYS := Lib.hid hys; have HZY := Lib.hid hzy; have HX5 := Lib.hid (HX4.out.tr hb5); have HB5 := Lib.hid hb5; clear hry hys hzy hb5
    have HL1 : Hid ((Pl.splitDot (bl d)).length = n1) := by unfold Hid; rw [← HRX.out.1, ← List.length_map (f := bl), HXS.out, List.length_reverse, (Pl.dom_labs HD.out).1]
    have HL2 : Hid ((Pl.splitDot (bl c2)).length = n2) := by unfold Hid; rw [← HRY.out.1, ← List.length_map (f := bl), HYS.out, List.length_reverse, Pl.name_labs HCN.out]
    have hn1 := HRX.out.2.1
    have hn2 := HRY.out.2.1
    have hwr : IntKind.i64.wrap ((n2 : Int) + 1) = ((n2 + 1 : Nat) : Int) := by rw [IntWalk.i64_in _ (by omega)]; rfl
    by_cases hlen : n1 = n2 + 1
    · have HLN := Lib.hid hlen
      clear HLN
      subst hlen
      go_wp2
      obtain ⟨wo, hwo⟩ : ∃ wo : World, wo = w5 := ⟨_, rfl⟩
      go_loopw [13, 14, 76] (fun _ _ i wr => ∃ j : Nat, i = .int .i64 j ∧ j ≤ n2 ∧ (∀ q, (hq : q < j) → (hqx : q < xs.length) → (hqy : q < ys.length) → Pl.small (bl xs[q]) = Pl.small (bl ys[q])) ∧ Ext w5 wr) (fun _ _ i _ => n2 - (intOf i).toNat)
      case atStart => exact ⟨0, rfl, by omega, fun q hq => by omega, Ext.refl _⟩
      case round =>
        obtain ⟨j, rfl, hj, hall, hb⟩ := hrel
        have HALL := Lib.hid hall; clear hall
        by_cases hlt : j < n2
        · have hjy : j < ys.length := by rw [HRY.out.1]; exact hlt
          have hjx : j < xs.length := by rw [HRX.out.1]; omega
          obtain ⟨ad2, rfl, hcy⟩ := (HRY.out.ext hb).2.2 j hjy
          obtain ⟨ad1, rfl, hcx⟩ := (HRX.out.ext (HB5.out.tr hb)).2.2 j hjx
          obtain ⟨y, hy⟩ : ∃ y, y = ys[j] := ⟨_, rfl⟩
          obtain ⟨x, hx⟩ : ∃ x, x = xs[j] := ⟨_, rfl⟩
          rw [← hy] at hcy
          rw [← hx] at hcx
          have hym : y ∈ ys := by rw [hy]; exact List.getElem_mem hjy
          have hxm : x ∈ xs := by rw [hx]; exact List.getElem_mem hjx
          have HXJ := Lib.hid hx; have HYJ := Lib.hid hy; clear hx hy
          have hvy : vis (bl y) := fun z hz => Pl.dom_vis (.inl HCN.out) z (Pl.labs_mem (bl y) (by rw [← List.mem_reverse, ← HYS.out]; exact List.mem_map.2 ⟨y, hym, rfl⟩) z hz)
          have hvx : vis (bl x) := fun z hz => Pl.dom_vis HD.out z (Pl.labs_mem (bl x) (by rw [← List.mem_reverse, ← HXS.out]; exact List.mem_map.2 ⟨x, hxm, rfl⟩) z hz)
          have HVX := Lib.hid hvx; have HVY := Lib.hid hvy; clear hvx hvy
          have hzy : y.size ≤ 2147483647 := by have := HZY.out y hym; omega
          clear hym hxm
          have hi1 : (j : Int) < ((n2 : Nat) : Int) := by omega
          have hi2 : (j : Int) < ((n2 + 1 : Nat) : Int) := by omega
          go_wp2_with fail
          refine (fold_any y x _ hzy HVY.out HVX.out).mono ?_
          rintro e w6 ⟨rfl, hb6⟩
          cases hm : (Pl.small (bl y) == Pl.small (bl x)) with
          | true =>
            have HM := Lib.hid hm; clear hm
            go_wp2
            go_roundw
            case rel =>
              refine ⟨j + 1, by go_num, by omega, fun q hq hqx hqy => ?_, hb.tr hb6⟩
              rcases Nat.lt_or_ge q j with h | h
              · exact HALL.out q h hqx hqy
              · obtain rfl : q = j := by omega
                rw [← HXJ.out, ← HYJ.out]
                exact (beq_iff_eq.1 HM.out).symm
            case measure => simp [intOf]; omega
          | false =>
            have HM := Lib.hid hm; clear hm
            go_wp2
            go_ret2
            refine ⟨ret_tup2 (congrArg Value.bool ?_) rfl, HX5.out.tr (hb.tr hb6)⟩
            rw [HLB.out, eq_comm]
            cases hz : (((Pl.splitDot (bl d)).drop 1).map Pl.small == (Pl.splitDot (bl c2)).map Pl.small) with
            | false => rfl
            | true =>
              exfalso
              have h3 := (Pl.rev_match _ _ _ (by rw [HL1.out, HL2.out])).1 hz j (by rw [HL2.out]; exact hlt)
              have h4 := HM.out
              rw [beq_eq_false_iff_ne, ne_eq] at h4
              apply h4
              have hx2 : (Pl.splitDot (bl d)).reverse[j]? = some (bl x) := by rw [← (Pl.dom_labs HD.out).1, ← HXS.out, List.getElem?_map, List.getElem?_eq_getElem hjx, ← HXJ.out]; rfl
              have hy2 : (Pl.splitDot (bl c2)).reverse[j]? = some (bl y) := by rw [← Pl.name_labs HCN.out, ← HYS.out, List.getElem?_map, List.getElem?_eq_getElem hjy, ← HYJ.out]; rfl
              rw [(List.getElem?_eq_some_iff.1 hx2).2, (List.getElem?_eq_some_iff.1 hy2).2] at h3
              exact h3.symm
        · obtain rfl : j = n2 := by omega
          go_wp2
          go_ret2
          refine ⟨ret_tup2 (congrArg Value.bool ?_) rfl, HX5.out.tr hb⟩
          rw [HLB.out]
          refine ((Pl.rev_match _ _ _ (by rw [HL1.out, HL2.out])).2 fun q hq => ?_).symm
          rw [HL2.out] at hq
          have hqy : q < ys.length := by rw [HRY.out.1]; exact hq
          have hqx : q < xs.length := by rw [HRX.out.1]; omega
          have hx2 : (Pl.splitDot (bl d)).reverse[q]? = some (bl xs[q]) := by rw [← (Pl.dom_labs HD.out).1, ← HXS.out, List.getElem?_map, List.getElem?_eq_getElem hqx]; rfl
          have hy2 : (Pl.splitDot (bl c2)).reverse[q]? = some (bl ys[q]) := by rw [← Pl.name_labs HCN.out, ← HYS.out, List.getElem?_map, List.getElem?_eq_getElem hqy]; rfl
          rw [(List.getElem?_eq_some_iff.1 hx2).2, (List.getElem?_eq_some_iff.1 hy2).2]
          exact HALL.out q hq hqx hqy
    · have hlen2 : ¬ (n1 : Int) = ((n2 + 1 : Nat) : Int) := by omega
      go_wp2
      go_ret2
      refine ⟨ret_tup2 (congrArg Value.bool ?_) rfl, HX5.out⟩
      rw [HLB.out, eq_comm, beq_eq_false_iff_ne]
      intro h
      have h2 := congrArg List.length h
      rw [List.length_map, List.length_map, List.length_drop, HL1.out, HL2.out] at h2
      have : 0 < n1 := by rw [← HL1.out]; exact List.length_pos_iff.2 (Pl.splitDot_ne _)
      omega
set_option maxHeartbeats 2000000 in
set_option maxRecDepth 100000 in
theorem matchD_star_no (g : Nat) (d c : ByteArray) (w : World) (hE : w.cell? ⟨g, 1, none⟩ = some (.bool false)) (hc0 : 0 < c.size) (r : List UInt8) (hd : bl d = 42 :: 46 :: r) :
    Calls Tryz.prog 101 #[.pointer (some ⟨g, 0, none⟩), .string d, .string c] w (MatchPost false w) := by
  obtain ⟨hd0, hg0⟩ := get0 hd
  have hd1 : 1 < d.size := by rw [← bl_length, hd]; simp
  have hg1 : d[1] = 46 := get_of (by rw [hd]; rfl) hd1
  have b46 : (((d[0]).toNat : Int) == 46) = false := by rw [hg0]; decide
  have b42 : (((d[0]).toNat : Int) == 42) = true := by rw [hg0]; decide
  have b1 : (((d[1]).toNat : Int) == 46) = true := by rw [hg1]; decide
  have HPR : Hid (Lib.hasPrefix d.data.toList (ByteArray.data ⟨#[42, 46]⟩).toList = true) := by show Lib.hasPrefix (bl d) [42, 46] = true; rw [hd]; rfl
  obtain ⟨hcn0, hcn1⟩ : ¬ c.toList = [] ∧ c.toList.isEmpty = false := nonempty_list (by intro h; have h2 := bl_length c; rw [h] at h2; simp at h2; omega)
  have hdn0 : (d.toList == [32]) = false := by rw [toList_bl, hd]; simp
  clear hg0 hg1 hd
  go_enter Tryz.func101, Tryz.ntmps101
  go_wp2_with fail
  refine (Tryz.strings_HasPrefix d _ _).mono ?_
  rintro e w1 ⟨rfl, rfl⟩
  rw [show Lib.hasPrefix d.data.toList (ByteArray.data ⟨#[42, 46]⟩).toList = true from HPR.out]
  go_wp2
  go_ret2
  exact ⟨rfl, Ext.refl _⟩
theorem con_pos {c : ByteArray} (hc : Pl.ConN (bl c)) : 0 < c.size := by
  rcases hc with h | ⟨q, h, _⟩
  · obtain ⟨x, r, e, _⟩ := Pl.name_head h
    exact (get0 e).1
  · exact (get0 h).1
theorem matchD_any (g : Nat) (lit : Bool) (d c : ByteArray) (w : World) (hE : w.cell? ⟨g, 1, none⟩ = some (.bool lit)) (hsd : d.size ≤ 1000) (hsc : c.size ≤ 1000) (hd : Pl.DomN (bl d)) (hc : Pl.ConN (bl c)) :
    Calls Tryz.prog 101 #[.pointer (some ⟨g, 0, none⟩), .string d, .string c] w (MatchPost (Pl.matchD lit (bl d) (bl c)) w) := by
  have hp := con_pos hc
  unfold Pl.matchD
  rcases hd with hd | ⟨r, hd, hr⟩
  · rw [Pl.wildD_name hd]
    rcases hc with hc | ⟨q, hc, hq⟩
    · rw [Pl.dotC_name hc]
      exact matchD_plain_name g lit d c w hE hsd hsc hd hc
    · rw [show Pl.dotC (bl c) = true from by rw [hc]; rfl]
      exact matchD_plain_dot g lit d c w hE hsd hsc hd q hc hq
  · rw [show Pl.wildD (bl d) = true from by rw [hd]; rfl]
    cases lit with
    | false => exact matchD_star_no g d c w hE hp r hd
    | true =>
      rcases hc with hc | ⟨q, hc, hq⟩
      · rw [Pl.dotC_name hc]
        exact matchD_star_name g true d c w hE hsd hsc r hd hr rfl hc
      · rw [show Pl.dotC (bl c) = true from by rw [hc]; rfl]
        exact matchD_star_dot g true d c w hE hsd hsc r hd hr rfl q hc hq
end Go.Proofs.YtnefafkdfcmmfaaGreatDoor
