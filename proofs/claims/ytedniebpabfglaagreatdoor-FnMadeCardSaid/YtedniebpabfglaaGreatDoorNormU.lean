/- The walks of net.SplitHostPort at texts without a colon, and of normalizeAndValidateURIDomainConstraint. -/
import Derived.Test.YtedniebpabfglaaGreatDoorSplit
import Derived.Test.YtedniebpabfglaaGreatDoorNormD
namespace Go.Proofs.YtedniebpabfglaaGreatDoor
open Go.RowKit

theorem SplitHP1 (a b : ByteArray) (w : World) : Calls Tryz.prog 101 #[.string a, .string b] w (fun e w' => ∃ T p, e = .returned (.tuple #[.string ⟨#[]⟩, .string ⟨#[]⟩, .iface T p]) ∧ Ext w w') := by
  go_enter Tryz.func101, Tryz.ntmps101
  go_wp2
  go_ret3
  exact ⟨_, _, rfl, (Ext.refl _).alloc _⟩
set_option maxHeartbeats 4000000 in
set_option maxRecDepth 100000 in
theorem SplitHP_no (s : ByteArray) (w : World) (hs : s.size ≤ 2147483647) (hno : ∀ x ∈ bl s, x ≠ 58) :
    Calls Tryz.prog 81 #[.string s] w (fun e w' => ∃ T p, e = .returned (.tuple #[.string ⟨#[]⟩, .string ⟨#[]⟩, .iface T p]) ∧ Ext w w') := by
  have HN := Lib.hid hno; clear hno
  go_enter Tryz.func81, Tryz.ntmps81
  go_wp2_with fail
  refine (Tryz.bytealg_LastIndexByteString s 58 _ (by omega)).mono ?_
  rintro e _ ⟨rfl, rfl⟩
  have hk : Lib.Pa.lastIndexByte s.data.toList 58 = -1 := by
    rcases Lib.Pa.lastIndexByte_spec s.data.toList 58 with ⟨h, _⟩ | ⟨i, _, h, _⟩
    · exact h
    · exact absurd rfl (HN.out 58 (List.mem_of_getElem? h))
  rw [hk]
  clear hk
  have hcf : ∀ (args : Array Value) (w : World), (callFunc 101 args).run Tryz.prog w = .ok (.enter 101 args) w := by
    intro args w
    unfold callFunc
    simp [go_sem, Tryz.func101, Tryz.f101]
  go_wp2_with fail
  refine (SplitHP1 s _ _).mono ?_
  rintro e w1 ⟨T, p, rfl, hb⟩
  go_wp2
  go_ret3
  exact ⟨T, p, rfl, hb⟩
theorem noip_con {u : ByteArray} (hv : ∀ x ∈ bl u, Pl.isNC x = true) (hh : (∃ c r, bl u = c :: r ∧ (Pl.isLet c = true ∨ c = 46))) (hs : u.size ≤ 1000) : NoIP u := by
  refine ⟨hv, fun h0 => ?_, hs⟩
  obtain ⟨c, r, e, hc⟩ := hh
  have := bl_get u 0 h0
  rw [← this]
  simp only [e, List.getElem_cons_zero]
  rcases hc with hc | hc
  · exact .inl hc
  · exact .inr hc
theorem no58 {u : ByteArray} (hv : ∀ x ∈ bl u, Pl.isNC x = true) : ∀ x ∈ bl u, x ≠ 58 := fun x hx => (Pl.nc_not x (hv x hx)).1
theorem hasnot {u : ByteArray} (c : UInt8) (p : List UInt8) (hp : c ∈ p) (hv : ∀ x ∈ bl u, Pl.isNC x = true ∨ x = 42) (hc : Pl.isNC c = false ∧ c ≠ 42) : Pl.has (bl u) p = false :=
  Pl.has_no c hp (fun hm => by
    rcases hv c hm with h | h
    · rw [h] at hc; cases hc.1
    · exact hc.2 h)
set_option maxHeartbeats 4000000 in
set_option maxRecDepth 100000 in
theorem NormU_plain (s : ByteArray) (w : World) (hs : s.size ≤ 2147483647) (ht : SpTab w) (hn : Pl.isName (bl s) = true) :
    Calls Tryz.prog 52 #[.string s] w (NormPost (Pl.small (bl s)) w) := by
  have hnt : Pl.isName (Pl.small (bl s)) = true := by rw [Pl.small_name]; exact hn
  have hvis : vis (bl s) := fun x hx => by have := Pl.nc_range x (Pl.isName_mem hn x hx); exact ⟨this.1, this.2.1⟩
  obtain ⟨t, hT⟩ : ∃ t, t = mk (Pl.small (bl s)) := ⟨_, rfl⟩
  have hbt : bl t = Pl.small (bl s) := by rw [hT, bl_mk]
  have hts : t.size ≤ 2147483647 := by rw [← bl_length, hbt]; unfold Pl.small; rw [List.length_map, bl_length]; exact hs
  have HV := Lib.hid hvis; clear hvis
  have HN : Hid (Pl.isName (bl t) = true) := by rw [hbt]; exact hnt
  have HT := Lib.hid hT
  have HBT := Lib.hid hbt; clear hbt hnt
  have HSP := Lib.hid ht; clear ht
  obtain ⟨c, r, hcr, hcl⟩ := Pl.name_head HN.out
  have hne := nonempty_list (s := t) (by rw [hcr]; simp)
  obtain ⟨hne1, hne2⟩ := hne
  have HCR := Lib.hid hcr
  have h1 : Pl.has (bl t) [46, 46] = false := Pl.name_nodd HN.out
  have h2 : Lib.hasPrefix (bl t) [46] = false := hasPrefix_no (by rw [hcr]; rfl) (fun e => by subst e; revert hcl; decide) _
  have h3 : Pl.has (bl t) [42] = false := Pl.has_no 42 (by simp) (fun h => (Pl.nc_range 42 (Pl.isName_mem HN.out 42 h)).2.2.1 rfl)
  have h4 : Lib.hasPrefix (bl t) [42, 46] = false := hasPrefix_no (by rw [hcr]; rfl) (fun e => by subst e; revert hcl; decide) _
  have H1 := Lib.hid h1; have H2 := Lib.hid h2; have H3 := Lib.hid h3; have H4 := Lib.hid h4
  have hpos : 0 < t.size := size_pos (by rw [hcr]; simp)
  have hc42 : (((t[0]'hpos).toNat : Int) == 42) = false := by
    have e : t[0]'hpos = c := by
      have e1 := bl_get t 0 hpos
      rw [← e1]
      have e2 := congrArg (fun l => l[0]?) hcr
      simp only [List.getElem?_cons_zero] at e2
      rw [List.getElem?_eq_getElem (by rw [bl_length]; exact hpos)] at e2
      injection e2
    rw [e, beq_eq_false_iff_ne]
    intro h
    have : c = 42 := UInt8.toNat_inj.1 (show c.toNat = 42 by omega)
    subst this; revert hcl; decide
  have HUV : Hid (∀ x ∈ bl t, Pl.isNC x = true) := fun x hx => Pl.isName_mem HN.out x hx
  have H0 : Hid (Pl.has (bl t) [58, 47, 47] = false) := hasnot 58 [58, 47, 47] (by simp) (fun x hx => .inl (HUV.out x hx)) ⟨by decide, by decide⟩
  have HL1 : Hid (Pl.has (bl t) [91] = false) := hasnot 91 [91] (by simp) (fun x hx => .inl (HUV.out x hx)) ⟨by decide, by decide⟩
  have HL2 : Hid (Pl.has (bl t) [93] = false) := hasnot 93 [93] (by simp) (fun x hx => .inl (HUV.out x hx)) ⟨by decide, by decide⟩
  have HS58 := Lib.hid (no58 HUV.out)
  have hszt : t.size ≤ 1000 := by rw [← bl_length]; have := Pl.name_len HN.out; omega
  have HNIP := Lib.hid (noip_con HUV.out ⟨c, r, hcr, .inl hcl⟩ hszt)
  clear h1 h2 h3 h4 hcr hcl hn hT hc42
  go_enter Tryz.func52, Tryz.ntmps52
  go_wp2_with fail
  refine (Trim_any s w (by omega) HV.out HSP.out).mono ?_
  rintro e w1 ⟨rfl, hb1⟩
  go_wp2_with fail
  refine (Lower_any s w1 (by omega) HV.out).mono ?_
  rintro e w2 ⟨rfl, hb2⟩
  rw [← HT.out]
  go_wp2_with fail
  refine (zzContains_any t _ w2 (by omega) (by show (3 : Nat) ≤ _; omega)).mono ?_
  rintro e w2b ⟨rfl, hb2b⟩
  rw [show Pl.has (bl t) (bl ⟨#[58, 47, 47]⟩) = false from H0.out]
  go_wp2_with fail
  refine (zzContains_any t _ w2b (by omega) (by show (2 : Nat) ≤ _; omega)).mono ?_
  rintro e w3 ⟨rfl, hb3⟩
  rw [show Pl.has (bl t) (bl ⟨#[46, 46]⟩) = false from H1.out]
  go_wp2_with fail
  refine (Tryz.strings_HasPrefix t _ w3).mono ?_
  rintro e w4 ⟨rfl, rfl⟩
  rw [show Lib.hasPrefix t.data.toList (ByteArray.data ⟨#[46]⟩).toList = false from H2.out]
  go_wp2_with fail
  refine (zzLast_any t _ _ (by omega) (by show (1 : Nat) ≤ _; omega)).mono ?_
  rintro e w5 ⟨k, rfl, hk, hb5⟩
  have hk0 : ¬ 0 < k := by
    rcases hk with ⟨rfl, _⟩ | ⟨i, rfl, hi, ha, _⟩
    · omega
    · exfalso
      have := Pl.has_true (s := bl t) (p := [42]) i (by rw [bl_length]; exact hi) ha
      rw [H3.out] at this; cases this
  clear hk
  have HX : Hid (Ext w w5) := (((hb1.tr hb2).tr hb2b).tr hb3).tr hb5
  have hback : mk (Pl.small (bl t)) = t := by rw [HBT.out, Pl.small_small, ← HT.out]
  have HBK := Lib.hid hback; clear hback
  have HRV : Hid (∀ w', Calls Tryz.prog 69 #[.string t] w' (RevPost t w')) := fun w' => by
    refine Rev_any t w' (by omega) ?_ ?_ ?_
    · rw [Pl.name_labs HN.out]; exact Pl.splitDot_ne _
    · rw [Pl.name_labs HN.out]; exact fun l hl => Pl.okLab_nil (Pl.name_all HN.out l hl)
    · exact fun x hx => by have := Pl.nc_range x (Pl.isName_mem HN.out x hx); exact ⟨this.1, this.2.1⟩
  clear hb1 hb2 hb2b hb3 hb5
  go_wp2_with fail
  refine (Tryz.strings_HasPrefix t _ w5).mono ?_
  rintro e w6 ⟨rfl, rfl⟩
  rw [show Lib.hasPrefix t.data.toList (ByteArray.data ⟨#[42, 46]⟩).toList = false from H4.out]
  go_wp2_with fail
  refine (zzContains_any t ⟨#[91]⟩ _ (by omega) (by decide)).mono ?_
  rintro e wa ⟨rfl, hba⟩
  rw [show Pl.has (bl t) (bl ⟨#[91]⟩) = false from HL1.out]
  go_wp2_with fail
  refine (zzContains_any t ⟨#[93]⟩ _ (by omega) (by decide)).mono ?_
  rintro e wb ⟨rfl, hbb⟩
  rw [show Pl.has (bl t) (bl ⟨#[93]⟩) = false from HL2.out]
  have HXB := Lib.hid (HX.out.tr (hba.tr hbb)); clear hba hbb
  go_wp2_with fail
  refine (SplitHP_no t _ (by omega) HS58.out).mono ?_
  rintro e wc ⟨T, p, rfl, hbc⟩
  have HXC := Lib.hid (HXB.out.tr hbc); clear hbc
  go_wp2_with fail
  refine (ParseIP_bad t _ HNIP.out hpos).mono ?_
  rintro e wd ⟨rfl, hbd⟩
  have HXD := Lib.hid (HXC.out.tr hbd); clear hbd
  go_wp2_with fail
  refine (zzLookup_any t _ (by omega) hpos (fun x hx => Pl.isName_mem HN.out x hx)).mono ?_
  rintro e w7 ⟨rfl, hb7⟩
  rw [HBK.out]
  go_wp2_with fail
  refine (HRV.out w7).mono ?_
  rintro e w8 ⟨A, n, cc, xs, rfl, hrd, hxs, hsz, hb8⟩
  clear hrd hxs hsz
  go_wp2
  go_ret2
  exact ⟨ret_tup2 (congrArg Value.string HT.out) rfl, (HXD.out.tr hb7).tr hb8⟩

set_option maxHeartbeats 4000000 in
set_option maxRecDepth 100000 in
theorem NormU_star (s : ByteArray) (r : List UInt8) (w : World) (hs : s.size ≤ 2147483647) (ht : SpTab w) (hst : Pl.star (bl s) = some r) (hn : Pl.isName r = true) :
    Calls Tryz.prog 52 #[.string s] w (NormPost (46 :: Pl.small r) w) := by
  obtain ⟨hse, hre⟩ := Pl.star_eq hst
  have hvis : vis (bl s) := Pl.domain_mem (by unfold Pl.isDomain; rw [hst]; exact hn)
  have HV := Lib.hid hvis; clear hvis
  obtain ⟨m, hm⟩ : ∃ m, m = Pl.small r := ⟨_, rfl⟩
  have HM : Hid (Pl.isName m = true) := by rw [hm]; unfold Hid; rw [Pl.small_name]; exact hn
  have hsm : Pl.small (bl s) = 42 :: 46 :: m := by rw [hse, hm]; rfl
  obtain ⟨t, hT⟩ : ∃ t, t = mk (Pl.small (bl s)) := ⟨_, rfl⟩
  have hbt : bl t = 42 :: 46 :: m := by rw [hT, bl_mk, hsm]
  have hts : t.size ≤ 2147483647 := by rw [← bl_length, hT, bl_mk]; unfold Pl.small; rw [List.length_map, bl_length]; exact hs
  have HT := Lib.hid hT
  have HSP := Lib.hid ht; clear ht
  obtain ⟨u, hU⟩ : ∃ u, u = t.extract 1 t.size := ⟨_, rfl⟩
  have hbu : bl u = 46 :: m := by rw [hU, bl_extract, List.take_of_length_le (by rw [List.length_drop, bl_length]; omega), hbt]; rfl
  have hus : u.size ≤ 2147483647 := by rw [hU, ByteArray.size_extract]; omega
  obtain ⟨c, q, hcr, hcl⟩ := Pl.name_head HM.out
  have hne := nonempty_list (s := t) (by rw [hbt]; simp)
  obtain ⟨hne1, hne2⟩ := hne
  have H1 : Hid (Pl.has (bl t) [46, 46] = false) := by
    unfold Hid
    rw [hbt]
    refine Pl.has_false fun i hi => ?_
    match i with
    | 0 => rfl
    | 1 =>
      rw [hcr]
      show (([46, c] : List UInt8) == [46, 46]) = false
      rw [beq_eq_false_iff_ne]
      intro e
      injection e with _ e
      injection e with e _
      subst e; revert hcl; decide
    | i + 2 =>
      have h := Pl.name_nodd HM.out
      show Pl.at_ m [46, 46] i = false
      cases ha : Pl.at_ m [46, 46] i with
      | false => rfl
      | true =>
        rw [Pl.has_true i (by simp at hi ⊢; omega) ha] at h
        cases h
  have H2 : Hid (Lib.hasPrefix (bl t) [46] = false) := hasPrefix_no (by rw [hbt]; rfl) (by decide) _
  have H3 : Hid (∀ i : Nat, Pl.at_ (bl t) [42] i = true → i = 0) := by
    intro i hi
    rw [Pl.at_one, hbt] at hi
    match i with
    | 0 => rfl
    | 1 => simp at hi
    | i + 2 =>
      have : (42 : UInt8) ∈ m := by
        refine List.mem_of_getElem? (i := i) ?_
        simpa using hi
      exact absurd rfl (Pl.nc_range 42 (Pl.isName_mem HM.out 42 this)).2.2.1
  have H4 : Hid (Lib.hasPrefix (bl t) [42, 46] = true) := by rw [hbt]; rfl
  have hsz2 : 2 ≤ t.size := by rw [← bl_length, hbt]; simp
  have hpos : 0 < t.size := by omega
  have hpos1 : 1 < t.size := by omega
  have hc42 : (((t[0]'hpos).toNat : Int) == 42) = true := by rw [get_of (c := 42) (by rw [hbt]; rfl) hpos]; rfl
  have hc46 : (((t[1]'hpos1).toNat : Int) != 46) = false := by rw [get_of (c := 46) (by rw [hbt]; rfl) hpos1]; rfl
  have hupos : 0 < u.size := by rw [← bl_length, hbu]; simp
  have HUN : Hid (∀ x ∈ bl u, Pl.isNC x = true) := by
    rw [hbu]
    intro x hx
    rcases List.mem_cons.1 hx with rfl | hx
    · rfl
    · exact Pl.isName_mem HM.out x hx
  have HUE : Hid (u = mk (46 :: Pl.small r)) := eq_of_bl (by rw [hbu, bl_mk, hm])
  have HBK : Hid (mk (Pl.small (bl u)) = u) := eq_of_bl (by
    rw [bl_mk, hbu]
    show Pl.low 46 :: Pl.small m = 46 :: m
    rw [hm, Pl.small_small]; rfl)
  have HRV : Hid (∀ w', Calls Tryz.prog 69 #[.string u] w' (RevPost u w')) := fun w' => by
    refine Rev_any u w' (by omega) ?_ ?_ ?_
    · rw [hbu, Pl.labs_dot]; exact Pl.splitDot_ne _
    · rw [hbu, Pl.labs_dot]; exact fun l hl => Pl.okLab_nil (Pl.name_all HM.out l hl)
    · exact fun x hx => by have := Pl.nc_range x (HUN.out x hx); exact ⟨this.1, this.2.1⟩
  have H0 : Hid (Pl.has (bl t) [58, 47, 47] = false) := hasnot 58 [58, 47, 47] (by simp) (fun x hx => by
    rw [hbt] at hx
    rcases List.mem_cons.1 hx with rfl | hx
    · exact .inr rfl
    · rw [← hbu] at hx; exact .inl (HUN.out x hx)) ⟨by decide, by decide⟩
  have HUV := HUN
  have HL1 : Hid (Pl.has (bl u) [91] = false) := hasnot 91 [91] (by simp) (fun x hx => .inl (HUV.out x hx)) ⟨by decide, by decide⟩
  have HL2 : Hid (Pl.has (bl u) [93] = false) := hasnot 93 [93] (by simp) (fun x hx => .inl (HUV.out x hx)) ⟨by decide, by decide⟩
  have HS58 := Lib.hid (no58 HUV.out)
  have hszu : u.size ≤ 1000 := by rw [← bl_length, hbu]; have := Pl.name_len HM.out; simp; omega
  have HNIP := Lib.hid (noip_con HUV.out ⟨46, m, hbu, .inr rfl⟩ hszu)
  have HU := Lib.hid hU
  clear hc42 hc46 hcr hcl hn hT hbt hbu hU hsm hm hse hre hst
  go_enter Tryz.func52, Tryz.ntmps52
  go_wp2_with fail
  refine (Trim_any s w (by omega) HV.out HSP.out).mono ?_
  rintro e w1 ⟨rfl, hb1⟩
  go_wp2_with fail
  refine (Lower_any s w1 (by omega) HV.out).mono ?_
  rintro e w2 ⟨rfl, hb2⟩
  rw [← HT.out]
  go_wp2_with fail
  refine (zzContains_any t _ w2 (by omega) (by show (3 : Nat) ≤ _; omega)).mono ?_
  rintro e w2b ⟨rfl, hb2b⟩
  rw [show Pl.has (bl t) (bl ⟨#[58, 47, 47]⟩) = false from H0.out]
  go_wp2_with fail
  refine (zzContains_any t _ w2b (by omega) (by show (2 : Nat) ≤ _; omega)).mono ?_
  rintro e w3 ⟨rfl, hb3⟩
  rw [show Pl.has (bl t) (bl ⟨#[46, 46]⟩) = false from H1.out]
  go_wp2_with fail
  refine (Tryz.strings_HasPrefix t _ w3).mono ?_
  rintro e w4 ⟨rfl, rfl⟩
  rw [show Lib.hasPrefix t.data.toList (ByteArray.data ⟨#[46]⟩).toList = false from H2.out]
  go_wp2_with fail
  refine (zzLast_any t _ _ (by omega) (by show (1 : Nat) ≤ _; omega)).mono ?_
  rintro e w5 ⟨k, rfl, hk, hb5⟩
  have hk0 : ¬ 0 < k := by
    rcases hk with ⟨rfl, _⟩ | ⟨i, rfl, hi, ha, _⟩
    · omega
    · have := H3.out i ha
      omega
  clear hk
  have HX : Hid (Ext w w5) := (((hb1.tr hb2).tr hb2b).tr hb3).tr hb5
  clear hb1 hb2 hb2b hb3 hb5
  go_wp2_with fail
  refine (Tryz.strings_HasPrefix t _ w5).mono ?_
  rintro e w6 ⟨rfl, rfl⟩
  rw [show Lib.hasPrefix t.data.toList (ByteArray.data ⟨#[42, 46]⟩).toList = true from H4.out]
  go_wp2_with fail
  rw [← HU.out]
  refine (zzContains_any u ⟨#[91]⟩ _ (by omega) (by decide)).mono ?_
  rintro e wa ⟨rfl, hba⟩
  rw [show Pl.has (bl u) (bl ⟨#[91]⟩) = false from HL1.out]
  go_wp2_with fail
  refine (zzContains_any u ⟨#[93]⟩ _ (by omega) (by decide)).mono ?_
  rintro e wb ⟨rfl, hbb⟩
  rw [show Pl.has (bl u) (bl ⟨#[93]⟩) = false from HL2.out]
  have HXB := Lib.hid (HX.out.tr (hba.tr hbb)); clear hba hbb
  go_wp2_with fail
  refine (SplitHP_no u _ (by omega) HS58.out).mono ?_
  rintro e wc ⟨T, p, rfl, hbc⟩
  have HXC := Lib.hid (HXB.out.tr hbc); clear hbc
  go_wp2_with fail
  refine (ParseIP_bad u _ HNIP.out hupos).mono ?_
  rintro e wd ⟨rfl, hbd⟩
  have HXD := Lib.hid (HXC.out.tr hbd); clear hbd
  go_wp2_with fail
  refine (zzLookup_any u _ (by omega) hupos HUN.out).mono ?_
  rintro e w7 ⟨rfl, hb7⟩
  rw [HBK.out]
  go_wp2_with fail
  refine (HRV.out w7).mono ?_
  rintro e w8 ⟨A, n, cc, xs, rfl, hrd, hxs, hsz, hb8⟩
  clear hrd hxs hsz
  go_wp2
  go_ret2
  exact ⟨ret_tup2 (congrArg Value.string HUE.out) rfl, (HXD.out.tr hb7).tr hb8⟩

/-- At every right constraint. -/
theorem NormU_any (s : ByteArray) (w : World) (hs : s.size ≤ 2147483647) (ht : SpTab w) (hn : Pl.isDomain (bl s) = true) :
    Calls Tryz.prog 52 #[.string s] w (NormPost (Pl.normD (bl s)) w) := by
  unfold Pl.isDomain at hn
  unfold Pl.normD
  cases hst : Pl.star (bl s) with
  | none => rw [hst] at hn; exact NormU_plain s w hs ht hn
  | some r => rw [hst] at hn; exact NormU_star s r w hs ht hst hn
end Go.Proofs.YtedniebpabfglaaGreatDoor
