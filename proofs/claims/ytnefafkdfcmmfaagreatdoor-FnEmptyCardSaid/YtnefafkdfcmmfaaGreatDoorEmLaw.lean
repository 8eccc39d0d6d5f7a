/- The law FnEmpty: what it comes to. -/
import Derived.Test.YtnefafkdfcmmfaaGreatDoorCommon
import Derived.Test.YtnefafkdfcmmfaaGreatDoorNames3
namespace Go.Proofs.YtnefafkdfcmmfaaGreatDoor
open Go.RowKit

def KindsPost (w : World) (e : Ending) (w' : World) : Prop := ∃ g c, e = .returned (.slice (some ⟨g, 0, none⟩) 6 c) ∧ w'.cell? ⟨g, 1, none⟩ = some (.string ⟨#[100, 110, 115]⟩) ∧ Ext w w'
set_option maxHeartbeats 4000000 in
set_option maxRecDepth 100000 in
theorem Kinds_any (w : World) : Calls Tryz.prog 20 #[] w (KindsPost w) := by
  obtain ⟨i0, hi, hz0, hz1, hz2⟩ := info_parts info_string
  have hl : kindsL.length = 6 := rfl
  go_enter Tryz.func20, Tryz.ntmps20
  go_wp2_with fail
  refine (kinds_any _).mono ?_
  rintro e w1 ⟨b, c, rfl, hk, hb1⟩
  have HK := Lib.hid hk; have HB1 := Lib.hid hb1
  clear hk hb1
  go_wp2
  go_loopw [1, 6] (fun v i wr => ∃ k : Nat, i = .int .i64 k ∧ k ≤ 6 ∧ wr.ownsRow w1.heap.size 9 1 v k ((kindsL.take k).map Value.string) ∧ Ext w1 wr) (fun _ i _ => 6 - (intOf i).toNat)
  case atStart => exact ⟨0, rfl, by omega, at0, Ext.refl _⟩
  case round =>
    obtain ⟨k, rfl, hk6, hown, hb⟩ := hrel
    obtain ⟨Av, cv, rfl⟩ := own_slice hown
    have HO := Lib.hid hown; have HB := Lib.hid hb
    clear hown hb
    by_cases hlt : k < 6
    · have hki : (k : Int) < 6 := by omega
      obtain ⟨t, ht⟩ : ∃ t, t = kindsL[k]'(by omega) := ⟨_, rfl⟩
      have hck : wr.cell? ⟨b, k, none⟩ = some (.string t) := by rw [ht]; exact HB.out.cell (HK.out k (by omega))
      have hst : Hid ((kindsL.take (k + 1)).map Value.string = (kindsL.take k).map Value.string ++ [.string t]) := by
        unfold Hid
        rw [List.take_succ_eq_append_getElem (by omega), List.map_append, ht]
        rfl
      clear ht
      go_wp2_with (at_builtin; refine wpList_append_own _ rfl (.tmp 10) (.tmp 12) 22 rfl w1.heap.size 9 i0 (.string ⟨#[]⟩) 1 16 Tryz.underlying22 hi hz0 hz1 hz2 rfl (by decide) (.slice Av k cv) k _ rfl (HO.out.alloc _) ⟨wr.heap.size, 0, none⟩ 1 1 [.string t] rfl rfl (one_new _ _ _) (by intro u hu; simp at hu; subst hu; rfl) (by unfold maxLen; omega) (by omega) (by have := HB.out.size; simp; omega) ?_; intro v2 w2 hown2 hgrow2 _; have HB2 := Lib.hid ((Ext.alloc HB.out _).grown hgrow2 (by have := HB.out.size; simp; omega) (own_lo HO.out)); have HO2 := Lib.hid hown2; clear hown2 hgrow2)
      go_roundw
      case rel => exact ⟨k + 1, by go_num, by omega, by rw [hst.out]; exact HO2.out, HB2.out⟩
      case measure => simp [intOf]; omega
    · obtain rfl : k = 6 := by omega
      obtain ⟨g, cap, he, _, _⟩ := HO.out.form (by decide)
      injection he with e1 e2 e3
      subst e1 e3
      have hc1 := HO.out.cells (g := g) rfl 1 (.string ⟨#[100, 110, 115]⟩) rfl
      rw [add_at] at hc1
      have HC1 := Lib.hid hc1; clear hc1
      go_wp2
      go_ret
      exact ⟨g, _, rfl, HC1.out, HB1.out.tr HB.out⟩
theorem fine_list {x : ByteArray} (hl : (bl x).length ≤ 120) (h : ∀ c ∈ bl x, c.toNat < 128 ∧ c.toNat ≠ 45) : fineT x := by
  refine ⟨by rw [← bl_length]; exact hl, fun j hj => ?_⟩
  have := h (bl x)[j] (List.getElem_mem (by rw [bl_length]; exact hj))
  rw [bl_get x j hj] at this
  exact this
theorem uri_host {x : ByteArray} (h : Pl.isHost (bl x) = true) : UriT x := by
  obtain ⟨k, hh, p, hp⟩ := Pl.isHost_get h
  exact ⟨⟨fine_list hp.len (fun c hc => Pl.uriC_fine c (hp.chars c hc)), fun w => taken_host x k hh p w hp⟩, fun w => ZZURI_of x _ w (zzURL_host x k hh p w hp)⟩
theorem mail_fine {x : ByteArray} (h : Pl.isMail (bl x) = true) : fineT x := fine_list (Pl.isMail_fine h).1 (Pl.isMail_fine h).2
theorem taken_nil : TakenT ⟨#[]⟩ := ⟨fine_list (by decide) (by intro c hc; simp [bl] at hc), fun w => zzTaken_any _ w bare_nil⟩
theorem areP_get {p : ByteArray → Bool} {xs : List ByteArray} (h : areP p xs = true) : (∀ x ∈ xs, p x = true) ∧ xs.length ≤ 6 := by
  unfold areP at h
  rw [Bool.and_eq_true, List.all_eq_true, decide_eq_true_eq] at h
  exact h
theorem SameN.nil {l : List Net} (h : SameN [] l) : l = [] := h.1 (by simp)
theorem Names_empty (d m : Sl) (Au : Option Addr) (nu cu : Nat) (us : List ByteArray) (Ai : Option Addr) (n c : Nat) (bs : List (List UInt8)) (w : World)
    (hd : d.ok w) (hm : m.ok w) (hu : RdS w Au nu us) (hr : RdB w Ai n bs) (hok : areN d.xs bs m.xs us = true) (ht : SpTab w) :
    Calls Tryz.prog 17 #[(dnsPol nilSl false).val, .string ⟨#[]⟩, d.val, .slice Ai n c, m.val, .slice Au nu cu] w (fun e w' => e = .returned (.tuple #[.bool true, .int .i64 0, .int .i64 0]) ∧ Ext w w') := by
  unfold areN at hok
  simp only [Bool.and_eq_true, decide_eq_true_eq] at hok
  obtain ⟨⟨⟨⟨h4, h6⟩, hdn⟩, hmn⟩, hun⟩ := hok
  have hdg := areP_get hdn
  have hmg := areP_get hmn
  have hug := areP_get hun
  have hstd := dnsPol_std nilSl false (by simp) (by simp)
  refine Names_any (dnsPol nilSl false) (engOf (dnsPol nilSl false)) ⟨#[]⟩ d m Au nu cu us Ai n c bs true 0 0 w (fun w' hw' => made_std (dnsPol nilSl false) w' (dnsPol_ok nilSl false w' (nilSl_ok w')) hstd (ht.ext hw'))
    hd (by rw [← hd.1.1]; omega) (fun y hy => fine_of (.inl (hdg.1 y hy))) hm (by rw [← hm.1.1]; omega) (fun y hy => mail_fine (hmg.1 y hy))
    hu (by rw [← hu.1]; omega) (fun y hy => uri_host (hug.1 y hy)) taken_nil hr (by rw [← hr.1]; omega) (fun b hb => by
      rw [List.all_eq_true] at h4
      have := h4 b hb
      unfold is4 at this
      simpa using this) ?_
  intro g a' w' hw' hfin hl A1 c1 A2 c2 A3 c3 A4 c4
  refine (allowed_zero g a' _ _ _ _ _ w' hfin hl.ver ⟨SameT.nil hl.cn, SameT.nil hl.ncn, SameT.nil hl.dns, SameT.nil hl.ndns, SameN.nil hl.ip, SameN.nil hl.nip, SameT.nil hl.em, SameT.nil hl.nem, SameT.nil hl.uri, SameT.nil hl.nuri, SameT.nil hl.pr, SameT.nil hl.npr⟩).mono ?_
  rintro e w3 ⟨rfl, hx⟩
  exact ⟨_, rfl, told_yes w3, hx⟩
set_option maxHeartbeats 8000000 in
set_option maxRecDepth 100000 in
theorem FnEmpty_any (Ad Ai Am Au : Option Addr) (nd cd n c nm cm nu cu : Nat) (ds ms us : List ByteArray) (bs : List (List UInt8)) (w : World)
    (hd : RdS w Ad nd ds) (hr : RdB w Ai n bs) (hm : RdS w Am nm ms) (hu : RdS w Au nu us) (ht : SpTab w) :
    Calls Tryz.prog 6 #[.slice Ad nd cd, .slice Ai n c, .slice Am nm cm, .slice Au nu cu] w (BoolPost true w) := by
  have HT := Lib.hid ht; have HD := Lib.hid hd; have HR := Lib.hid hr; have HM := Lib.hid hm; have HU := Lib.hid hu
  clear ht hd hr hm hu
  go_enter Tryz.func6, Tryz.ntmps6
  go_wp2_with fail
  refine (zzFits2_any Ad nd cd ds w HD.out).mono ?_
  rintro e w1 ⟨f1, rfl, hf1, hb1⟩
  have HF1 := Lib.hid hf1; have HB1 := Lib.hid hb1; clear hf1 hb1
  cases f1 with
  | false =>
    go_wp2
    go_ret
    exact ⟨rfl, HB1.out⟩
  | true =>
  go_wp2_with fail
  refine (zzFits3_any Ai n c bs w1 (HR.out.ext HB1.out)).mono ?_
  rintro e w2 ⟨f2, rfl, hb2⟩
  have HB2 := Lib.hid (HB1.out.tr hb2); clear hb2
  cases f2 with
  | false =>
    go_wp2
    go_ret
    exact ⟨rfl, HB2.out⟩
  | true =>
  go_wp2_with fail
  refine (zzFits2_any Am nm cm ms w2 (HM.out.ext HB2.out)).mono ?_
  rintro e w3 ⟨f3, rfl, hf3, hb3⟩
  have HF3 := Lib.hid hf3; have HB3 := Lib.hid (HB2.out.tr hb3); clear hf3 hb3
  cases f3 with
  | false =>
    go_wp2
    go_ret
    exact ⟨rfl, HB3.out⟩
  | true =>
  go_wp2_with fail
  refine (zzFits2_any Au nu cu us w3 (HU.out.ext HB3.out)).mono ?_
  rintro e w4 ⟨f4, rfl, hf4, hb4⟩
  have HF4 := Lib.hid hf4; have HB4 := Lib.hid (HB3.out.tr hb4); clear hf4 hb4
  cases f4 with
  | false =>
    go_wp2
    go_ret
    exact ⟨rfl, HB4.out⟩
  | true =>
  have HDK : Hid ((⟨Ad, nd, cd, ds⟩ : Sl).ok w4) := ⟨HD.out.ext HB4.out, by simpa using HF1.out⟩
  have HMK : Hid ((⟨Am, nm, cm, ms⟩ : Sl).ok w4) := ⟨HM.out.ext HB4.out, by simpa using HF3.out⟩
  have HUK : Hid ((⟨Au, nu, cu, us⟩ : Sl).ok w4) := ⟨HU.out.ext HB4.out, by simpa using HF4.out⟩
  go_wp2_with fail
  refine (show Calls Tryz.prog 19 _ _ _ from AreNames_any ⟨Ad, nd, cd, ds⟩ ⟨Am, nm, cm, ms⟩ ⟨Au, nu, cu, us⟩ Ai n c bs w4 HDK.out HMK.out HUK.out (HR.out.ext HB4.out)).mono ?_
  rintro e w5 ⟨rfl, hb5⟩
  have HB5 := Lib.hid (HB4.out.tr hb5); have HE5 := Lib.hid hb5
  clear hb5
  cases hok : areN ds bs ms us with
  | false =>
    clear hok
    go_wp2
    go_ret
    exact ⟨rfl, HB5.out⟩
  | true =>
    have HOK := Lib.hid hok; clear hok
    go_wp2_with fail
    refine (show Calls Tryz.prog 17 _ _ _ from Names_empty ⟨Ad, nd, cd, ds⟩ ⟨Am, nm, cm, ms⟩ Au nu cu us Ai n c bs w5 (HDK.out.ext HE5.out) (HMK.out.ext HE5.out) (HU.out.ext HB5.out) (HR.out.ext HB5.out) HOK.out (HT.out.ext HB5.out)).mono ?_
    rintro e w6 ⟨rfl, hb6⟩
    have HB6 := Lib.hid (HB5.out.tr hb6); clear hb6
    go_wp2_with fail
    refine (Kinds_any _).mono ?_
    rintro e w7 ⟨gk, ck, rfl, hck0, hb7⟩
    have HB7 := Lib.hid (HB6.out.tr hb7); clear hb7
    obtain ⟨t, htt⟩ : ∃ t : ByteArray, t = ⟨#[100, 110, 115]⟩ := ⟨_, rfl⟩
    have hck : w7.cell? ⟨gk, 1, none⟩ = some (.string t) := by rw [htt]; exact hck0
    have hq : (t.toList == [100, 110, 115]) = true := by rw [htt, toList_bl]; rfl
    clear htt hck0
    go_wp2_with fail
    refine (answers_any _ (HT.out.ext HB7.out)).mono ?_
    rintro e w8 ⟨rfl, hb8⟩
    have HB8 := Lib.hid (HB7.out.tr hb8); clear hb8
    go_wp2
    go_ret
    exact ⟨rfl, HB8.out⟩
end Go.Proofs.YtnefafkdfcmmfaaGreatDoor
