/- The walk of normalizeAndValidateDNSDomainConstraint at right constraints. -/
import Derived.Test.YtedniebpabfglaaGreatDoorRev
import Derived.Test.YtedniebpabfglaaGreatDoorPlain3
namespace Go.Proofs.YtedniebpabfglaaGreatDoor
open Go.RowKit

/-- A normalized text comes back, and no error. -/
def NormPost (r : List UInt8) (w : World) (e : Ending) (w' : World) : Prop := e = .returned (.tuple #[.string (mk r), .nilIface]) ∧ Ext w w'
theorem hasPrefix_no {l : List UInt8} {c d : UInt8} (h : l.head? = some d) (hne : c ≠ d) (p : List UInt8) : Lib.hasPrefix l (c :: p) = false := by
  cases l with
  | nil => cases h
  | cons x r =>
    have h2 : x = d := by simpa using h
    subst h2
    unfold Lib.hasPrefix
    rw [List.isPrefixOf_cons_cons]
    simp [hne]
theorem nonempty_list {s : ByteArray} (h : bl s ≠ []) : ¬ s.toList = [] ∧ s.toList.isEmpty = false := by
  rw [toList_bl]; exact ⟨h, by rw [List.isEmpty_eq_false_iff]; exact h⟩
theorem size_pos {s : ByteArray} (h : bl s ≠ []) : 0 < s.size := by
  rw [← bl_length]; exact List.length_pos_iff.2 h

set_option maxHeartbeats 4000000 in
set_option maxRecDepth 100000 in
theorem NormD_plain (s : ByteArray) (w : World) (hs : s.size ≤ 2147483647) (ht : SpTab w) (hn : Pl.isName (bl s) = true) :
    Calls Tryz.prog 40 #[.string s] w (NormPost (Pl.small (bl s)) w) := by
  have hnt : Pl.isName (Pl.small (bl s)) = true := by rw [Pl.small_name]; exact hn
  have hvis : vis (bl s) := fun x hx => by have := Pl.nc_range x (Pl.isName_mem hn x hx); exact ⟨this.1, this.2.1⟩
  obtain ⟨t, hT⟩ : ∃ t, t = mk (Pl.small (bl s)) := ⟨_, rfl⟩
  have hbt : bl t = Pl.small (bl s) := by rw [hT, bl_mk]
  have hts : t.size ≤ 2147483647 := by rw [← bl_length, hbt]; unfold Pl.small; rw [List.length_map, bl_length]; exact hs
  have HV := Lib.hid hvis; clear hvis
  have HN : Hid (Pl.isName (bl t) = true) := by rw [hbt]; exact hnt
  have HT := Lib.hid hT
  have HBT := Lib.hid hbt; clear hbt hnt
  have HSP := Lib.hid ht; clear ht
  obtain ⟨c, r, hcr, hcl⟩ := Pl.name_head HN.out
  have hne := nonempty_list (s := t) (by rw [hcr]; simp)
  obtain ⟨hne1, hne2⟩ := hne
  have HCR := Lib.hid hcr
  have h1 : Pl.has (bl t) [46, 46] = false := Pl.name_nodd HN.out
  have h2 : Lib.hasPrefix (bl t) [46] = false := hasPrefix_no (by rw [hcr]; rfl) (fun e => by subst e; revert hcl; decide) _
  have h3 : Pl.has (bl t) [42] = false := Pl.has_no 42 (by simp) (fun h => (Pl.nc_range 42 (Pl.isName_mem HN.out 42 h)).2.2.1 rfl)
  have h4 : Lib.hasPrefix (bl t) [42, 46] = false := hasPrefix_no (by rw [hcr]; rfl) (fun e => by subst e; revert hcl; decide) _
  have H1 := Lib.hid h1; have H2 := Lib.hid h2; have H3 := Lib.hid h3; have H4 := Lib.hid h4
  have hpos : 0 < t.size := size_pos (by rw [hcr]; simp)
  have hc42 : (((t[0]'hpos).toNat : Int) == 42) = false := by
    have e : t[0]'hpos = c := by
      have e1 := bl_get t 0 hpos
      rw [← e1]
      have e2 := congrArg (fun l => l[0]?) hcr
      simp only [List.getElem?_cons_zero] at e2
      rw [List.getElem?_eq_getElem (by rw [bl_length]; exact hpos)] at e2
      injection e2
    rw [e, beq_eq_false_iff_ne]
    intro h
    have : c = 42 := UInt8.toNat_inj.1 (show c.toNat = 42 by omega)
    subst this; revert hcl; decide
  clear h1 h2 h3 h4 hcr hcl hn hT
  go_enter Tryz.func40, Tryz.ntmps40
  go_wp2_with fail
  refine (Trim_any s w (by omega) HV.out HSP.out).mono ?_
  rintro e w1 ⟨rfl, hb1⟩
  go_wp2_with fail
  refine (Lower_any s w1 (by omega) HV.out).mono ?_
  rintro e w2 ⟨rfl, hb2⟩
  rw [← HT.out]
  go_wp2_with fail
  refine (zzContains_any t _ w2 (by omega) (by show (2 : Nat) ≤ _; omega)).mono ?_
  rintro e w3 ⟨rfl, hb3⟩
  rw [show Pl.has (bl t) (bl ⟨#[46, 46]⟩) = false from H1.out]
  go_wp2_with fail
  refine (Tryz.strings_HasPrefix t _ w3).mono ?_
  rintro e w4 ⟨rfl, rfl⟩
  rw [show Lib.hasPrefix t.data.toList (ByteArray.data ⟨#[46]⟩).toList = false from H2.out]
  go_wp2_with fail
  refine (zzLast_any t _ _ (by omega) (by show (1 : Nat) ≤ _; omega)).mono ?_
  rintro e w5 ⟨k, rfl, hk, hb5⟩
  have hk0 : ¬ 0 < k := by
    rcases hk with ⟨rfl, _⟩ | ⟨i, rfl, hi, ha, _⟩
    · omega
    · exfalso
      have := Pl.has_true (s := bl t) (p := [42]) i (by rw [bl_length]; exact hi) ha
      rw [H3.out] at this; cases this
  clear hk
  have HX : Hid (Ext w w5) := ((hb1.tr hb2).tr hb3).tr hb5
  have hback : mk (Pl.small (bl t)) = t := by rw [HBT.out, Pl.small_small, ← HT.out]
  have HBK := Lib.hid hback; clear hback
  have HRV : Hid (∀ w', Calls Tryz.prog 69 #[.string t] w' (RevPost t w')) := fun w' => by
    refine Rev_any t w' (by omega) ?_ ?_ ?_
    · rw [Pl.name_labs HN.out]; exact Pl.splitDot_ne _
    · rw [Pl.name_labs HN.out]; exact fun l hl => Pl.okLab_nil (Pl.name_all HN.out l hl)
    · exact fun x hx => by have := Pl.nc_range x (Pl.isName_mem HN.out x hx); exact ⟨this.1, this.2.1⟩
  clear hb1 hb2 hb3 hb5
  go_wp2_with fail
  all_goals
    refine (Tryz.strings_HasPrefix t _ w5).mono ?_
    rintro e w6 ⟨rfl, rfl⟩
    rw [show Lib.hasPrefix t.data.toList (ByteArray.data ⟨#[42, 46]⟩).toList = false from H4.out]
    go_wp2_with fail
    refine (zzLookup_any t _ (by omega) hpos (fun x hx => Pl.isName_mem HN.out x hx)).mono ?_
    rintro e w7 ⟨rfl, hb7⟩
    rw [HBK.out]
    go_wp2_with fail
    refine (HRV.out w7).mono ?_
    rintro e w8 ⟨A, n, cc, xs, rfl, hrd, hxs, hsz, hb8⟩
    clear hrd hxs hsz
    go_wp2
    go_ret2
    exact ⟨ret_tup2 (congrArg Value.string HT.out) rfl, (HX.out.tr hb7).tr hb8⟩

theorem get_of {s : ByteArray} {k : Nat} {c : UInt8} (h : (bl s)[k]? = some c) (hk : k < s.size) : s[k] = c := by
  rw [List.getElem?_eq_getElem (by rw [bl_length]; exact hk)] at h
  injection h with h

set_option maxHeartbeats 4000000 in
set_option maxRecDepth 100000 in
theorem NormD_star (s : ByteArray) (r : List UInt8) (w : World) (hs : s.size ≤ 2147483647) (ht : SpTab w) (hst : Pl.star (bl s) = some r) (hn : Pl.isName r = true) :
    Calls Tryz.prog 40 #[.string s] w (NormPost (46 :: Pl.small r) w) := by
  obtain ⟨hse, hre⟩ := Pl.star_eq hst
  have hvis : vis (bl s) := Pl.domain_mem (by unfold Pl.isDomain; rw [hst]; exact hn)
  have HV := Lib.hid hvis; clear hvis
  obtain ⟨m, hm⟩ : ∃ m, m = Pl.small r := ⟨_, rfl⟩
  have HM : Hid (Pl.isName m = true) := by rw [hm]; unfold Hid; rw [Pl.small_name]; exact hn
  have hsm : Pl.small (bl s) = 42 :: 46 :: m := by rw [hse, hm]; rfl
  obtain ⟨t, hT⟩ : ∃ t, t = mk (Pl.small (bl s)) := ⟨_, rfl⟩
  have hbt : bl t = 42 :: 46 :: m := by rw [hT, bl_mk, hsm]
  have hts : t.size ≤ 2147483647 := by rw [← bl_length, hT, bl_mk]; unfold Pl.small; rw [List.length_map, bl_length]; exact hs
  have HT := Lib.hid hT
  have HSP := Lib.hid ht; clear ht
  obtain ⟨u, hU⟩ : ∃ u, u = t.extract 1 t.size := ⟨_, rfl⟩
  have hbu : bl u = 46 :: m := by rw [hU, bl_extract, List.take_of_length_le (by rw [List.length_drop, bl_length]; omega), hbt]; rfl
  have hus : u.size ≤ 2147483647 := by rw [hU, ByteArray.size_extract]; omega
  obtain ⟨c, q, hcr, hcl⟩ := Pl.name_head HM.out
  have hne := nonempty_list (s := t) (by rw [hbt]; simp)
  obtain ⟨hne1, hne2⟩ := hne
  have H1 : Hid (Pl.has (bl t) [46, 46] = false) := by
    unfold Hid
    rw [hbt]
    refine Pl.has_false fun i hi => ?_
    match i with
    | 0 => rfl
    | 1 =>
      rw [hcr]
      show (([46, c] : List UInt8) == [46, 46]) = false
      rw [beq_eq_false_iff_ne]
      intro e
      injection e with _ e
      injection e with e _
      subst e; revert hcl; decide
    | i + 2 =>
      have h := Pl.name_nodd HM.out
      show Pl.at_ m [46, 46] i = false
      cases ha : Pl.at_ m [46, 46] i with
      | false => rfl
      | true =>
        rw [Pl.has_true i (by simp at hi ⊢; omega) ha] at h
        cases h
  have H2 : Hid (Lib.hasPrefix (bl t) [46] = false) := hasPrefix_no (by rw [hbt]; rfl) (by decide) _
  have H3 : Hid (∀ i : Nat, Pl.at_ (bl t) [42] i = true → i = 0) := by
    intro i hi
    rw [Pl.at_one, hbt] at hi
    match i with
    | 0 => rfl
    | 1 => simp at hi
    | i + 2 =>
      have : (42 : UInt8) ∈ m := by
        refine List.mem_of_getElem? (i := i) ?_
        simpa using hi
      exact absurd rfl (Pl.nc_range 42 (Pl.isName_mem HM.out 42 this)).2.2.1
  have H4 : Hid (Lib.hasPrefix (bl t) [42, 46] = true) := by rw [hbt]; rfl
  have hsz2 : 2 ≤ t.size := by rw [← bl_length, hbt]; simp
  have hpos : 0 < t.size := by omega
  have hpos1 : 1 < t.size := by omega
  have hc42 : (((t[0]'hpos).toNat : Int) == 42) = true := by rw [get_of (c := 42) (by rw [hbt]; rfl) hpos]; rfl
  have hc46 : (((t[1]'hpos1).toNat : Int) != 46) = false := by rw [get_of (c := 46) (by rw [hbt]; rfl) hpos1]; rfl
  have hupos : 0 < u.size := by rw [← bl_length, hbu]; simp
  have HUN : Hid (∀ x ∈ bl u, Pl.isNC x = true) := by
    rw [hbu]
    intro x hx
    rcases List.mem_cons.1 hx with rfl | hx
    · rfl
    · exact Pl.isName_mem HM.out x hx
  have HUE : Hid (u = mk (46 :: Pl.small r)) := eq_of_bl (by rw [hbu, bl_mk, hm])
  have HBK : Hid (mk (Pl.small (bl u)) = u) := eq_of_bl (by
    rw [bl_mk, hbu]
    show Pl.low 46 :: Pl.small m = 46 :: m
    rw [hm, Pl.small_small]; rfl)
  have HRV : Hid (∀ w', Calls Tryz.prog 69 #[.string u] w' (RevPost u w')) := fun w' => by
    refine Rev_any u w' (by omega) ?_ ?_ ?_
    · rw [hbu, Pl.labs_dot]; exact Pl.splitDot_ne _
    · rw [hbu, Pl.labs_dot]; exact fun l hl => Pl.okLab_nil (Pl.name_all HM.out l hl)
    · exact fun x hx => by have := Pl.nc_range x (HUN.out x hx); exact ⟨this.1, this.2.1⟩
  have HU := Lib.hid hU
  clear hcr hcl hn hT hbt hbu hU hsm hm hse hre hst
  go_enter Tryz.func40, Tryz.ntmps40
  go_wp2_with fail
  refine (Trim_any s w (by omega) HV.out HSP.out).mono ?_
  rintro e w1 ⟨rfl, hb1⟩
  go_wp2_with fail
  refine (Lower_any s w1 (by omega) HV.out).mono ?_
  rintro e w2 ⟨rfl, hb2⟩
  rw [← HT.out]
  go_wp2_with fail
  refine (zzContains_any t _ w2 (by omega) (by show (2 : Nat) ≤ _; omega)).mono ?_
  rintro e w3 ⟨rfl, hb3⟩
  rw [show Pl.has (bl t) (bl ⟨#[46, 46]⟩) = false from H1.out]
  go_wp2_with fail
  refine (Tryz.strings_HasPrefix t _ w3).mono ?_
  rintro e w4 ⟨rfl, rfl⟩
  rw [show Lib.hasPrefix t.data.toList (ByteArray.data ⟨#[46]⟩).toList = false from H2.out]
  go_wp2_with fail
  refine (zzLast_any t _ _ (by omega) (by show (1 : Nat) ≤ _; omega)).mono ?_
  rintro e w5 ⟨k, rfl, hk, hb5⟩
  have hk0 : ¬ 0 < k := by
    rcases hk with ⟨rfl, _⟩ | ⟨i, rfl, hi, ha, _⟩
    · omega
    · have := H3.out i ha
      omega
  clear hk
  have HX : Hid (Ext w w5) := ((hb1.tr hb2).tr hb3).tr hb5
  clear hb1 hb2 hb3 hb5
  go_wp2_with fail
  refine (Tryz.strings_HasPrefix t _ w5).mono ?_
  rintro e w6 ⟨rfl, rfl⟩
  rw [show Lib.hasPrefix t.data.toList (ByteArray.data ⟨#[42, 46]⟩).toList = true from H4.out]
  go_wp2_with fail
  rw [← HU.out]
  refine (zzLookup_any u _ (by omega) hupos HUN.out).mono ?_
  rintro e w7 ⟨rfl, hb7⟩
  rw [HBK.out]
  go_wp2_with fail
  refine (HRV.out w7).mono ?_
  rintro e w8 ⟨A, n, cc, xs, rfl, hrd, hxs, hsz, hb8⟩
  clear hrd hxs hsz
  go_wp2
  go_ret2
  exact ⟨ret_tup2 (congrArg Value.string HUE.out) rfl, (HX.out.tr hb7).tr hb8⟩

/-- At every right constraint. -/
theorem NormD_any (s : ByteArray) (w : World) (hs : s.size ≤ 2147483647) (ht : SpTab w) (hn : Pl.isDomain (bl s) = true) :
    Calls Tryz.prog 40 #[.string s] w (NormPost (Pl.normD (bl s)) w) := by
  unfold Pl.isDomain at hn
  unfold Pl.normD
  cases hst : Pl.star (bl s) with
  | none => rw [hst] at hn; exact NormD_plain s w hs ht hn
  | some r => rw [hst] at hn; exact NormD_star s r w hs ht hst hn
end Go.Proofs.YtedniebpabfglaaGreatDoor
