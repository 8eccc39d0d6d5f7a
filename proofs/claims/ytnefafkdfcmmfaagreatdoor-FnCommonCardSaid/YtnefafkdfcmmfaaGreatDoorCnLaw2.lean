/- The law FnCommon: what it comes to. The walk of the law FnCommon. -/
import Derived.Test.YtnefafkdfcmmfaaGreatDoorCommon
import Derived.Test.YtnefafkdfcmmfaaGreatDoorNames3
import Derived.Test.YtnefafkdfcmmfaaGreatDoorFits
section
namespace Go.Proofs.YtnefafkdfcmmfaaGreatDoor
open Go.RowKit

/-- A policy of common names alone, which are asked. -/
abbrev cnPol (y o : Sl) : Pol := ⟨nilSl, nilSl, nilSl, nilSl, nilSl, nilSl, nilSl, nilSl, y, o, nilSl, nilSl, false, true⟩
theorem cnPol_ok (y o : Sl) (w : World) (hy : y.ok w) (ho : o.ok w) : (cnPol y o).ok w := ⟨nilSl_ok w, nilSl_ok w, nilSl_ok w, nilSl_ok w, nilSl_ok w, nilSl_ok w, nilSl_ok w, nilSl_ok w, hy, ho, nilSl_ok w, nilSl_ok w⟩
theorem cnPol_std (y o : Sl) (hy : ∀ x ∈ y.xs, Pl.isName (bl x) = true) (hyn : y.n ≤ 20) (ho : ∀ x ∈ o.xs, Pl.isName (bl x) = true) (hon : o.n ≤ 20) : Std (cnPol y o) :=
  ⟨by simp, by simp, hy, ho, by simp, by simp, hyn, hon, ⟨rfl, rfl⟩, ⟨rfl, rfl⟩, ⟨rfl, rfl⟩, ⟨rfl, rfl⟩, ⟨rfl, rfl⟩, ⟨rfl, rfl⟩, ⟨rfl, rfl⟩, ⟨rfl, rfl⟩⟩
theorem told_cn (b : Nat) (nm : ByteArray) (w : World) (hB : Blk w b 100 #[.int .i64 1, .string ⟨#[99, 110]⟩, .string nm]) : ToldAs (.iface 96 (.pointer (some ⟨b, 0, none⟩))) w false 1 1 := fun w' hx =>
  told_err b 0 (by decide) (fun j h => by omega) nm w' (hB.ext hx)
theorem cnOk_like {a b : AE} (h : Like a b) (x : List UInt8) : cnOk b x = cnOk a x := allows_same h.cn h.ncn _
/-- Whether one of the names is the name. -/
def anyN (l : List ByteArray) (x : ByteArray) : Bool := l.any fun s => domP (bl s) (bl x)
theorem any_small (l : List ByteArray) (x : ByteArray) : (l.map fun s => Pl.small (bl s)).any (fun c => Pl.small (bl x) == Pl.small c) = anyN l x := by
  unfold anyN
  rw [List.any_map]
  congr 1
  funext s
  show (Pl.small (bl x) == Pl.small (Pl.small (bl s))) = domP (bl s) (bl x)
  rw [Pl.small_small, domP, Pl.split_small_eq]
theorem cnOk_eng (y o : Sl) (x : ByteArray) (h : y.xs ≠ []) : cnOk (engOf (cnPol y o)) (bl x) = (anyN y.xs x && !anyN o.xs x) := by
  unfold cnOk allows
  show (!(o.xs.map fun s => Pl.small (bl s)).any _ && ((y.xs.map fun s => Pl.small (bl s)).isEmpty || (y.xs.map fun s => Pl.small (bl s)).any _)) = _
  rw [any_small, any_small]
  have : (y.xs.map fun s => Pl.small (bl s)).isEmpty = false := by simpa using h
  rw [this, Bool.false_or, Bool.and_comm]
theorem name_pos {x : ByteArray} (h : Pl.isName (bl x) = true) : 0 < x.size := by
  obtain ⟨c, r, e, _⟩ := Pl.name_head h
  rw [← bl_length, e]; simp
theorem taken_name {x : ByteArray} (h : Pl.isName (bl x) = true) : TakenT x := ⟨fine_of (.inl h), fun w => zzTaken_any x w (bare_name h)⟩
theorem Names_cn (y o : Sl) (x : ByteArray) (w : World) (hy : y.ok w) (ho : o.ok w) (hyn : y.n ≤ 20) (hon : o.n ≤ 20) (hyx : ∀ s ∈ y.xs, Pl.isName (bl s) = true) (hox : ∀ s ∈ o.xs, Pl.isName (bl s) = true) (hne : y.xs ≠ []) (hx : Pl.isName (bl x) = true) (ht : SpTab w) :
    Calls Tryz.prog 17 #[(cnPol y o).val, .string x, .slice none 0 0, .slice none 0 0, .slice none 0 0, .slice none 0 0] w (fun e w' => e = .returned (.tuple #[.bool (anyN y.xs x && !anyN o.xs x), .int .i64 (numOf (anyN y.xs x && !anyN o.xs x) 1), .int .i64 (numOf (anyN y.xs x && !anyN o.xs x) 1)]) ∧ Ext w w') := by
  rw [← cnOk_eng y o x hne]
  have hstd := cnPol_std y o hyx hyn hox hon
  have hmem : ∀ c, c ∈ (engOf (cnPol y o)).cn ∨ c ∈ (engOf (cnPol y o)).ncn → Pl.isName c = true := by
    intro c hc
    rcases hc with hc | hc
    · obtain ⟨s, hs, rfl⟩ := List.mem_map.1 hc
      rw [Pl.small_name]; exact hyx s hs
    · obtain ⟨s, hs, rfl⟩ := List.mem_map.1 hc
      rw [Pl.small_name]; exact hox s hs
  refine Names_any (cnPol y o) (engOf (cnPol y o)) x nilSl nilSl none 0 0 [] none 0 0 [] _ _ _ w (fun w' hw' => made_std (cnPol y o) w' (cnPol_ok y o w' (hy.ext hw') (ho.ext hw')) hstd (ht.ext hw'))
    (nilSl_ok w) (by simp) (by simp) (nilSl_ok w) (by simp) (by simp) ⟨rfl, by omega, fun j hj => by simp at hj⟩ (by omega) (by simp) (taken_name hx) ⟨rfl, by omega, fun j hj => by simp at hj⟩ (by omega) (by simp) ?_
  intro g a' w' hw' hfin hlike A1 c1 A2 c2 A3 c3 A4 c4
  have hpos : 0 < a'.cn.length := by
    rcases Nat.eq_zero_or_pos a'.cn.length with h | h
    · exfalso
      have e1 := List.eq_nil_of_length_eq_zero h
      have e2 := empty_same hlike.cn
      rw [e1] at e2
      have e3 := List.isEmpty_iff.1 e2.symm
      have e4 : (y.xs.map fun s => Pl.small (bl s)) = [] := e3
      exact hne (by simpa using e4)
    · exact h
  have hv : a'.ver = true := hlike.ver
  refine (allowed_cn g x a' A1 A2 A3 A4 c1 c2 c3 c4 w' hfin hv hx (fun c hc => hmem c (by
    rcases hc with hc | hc
    · exact .inl ((hlike.cn.1 c).1 hc)
    · exact .inr ((hlike.ncn.1 c).1 hc))) hpos (by rw [SameT.nil hlike.dns]; rfl) (by rw [SameT.nil hlike.ndns]; rfl)).mono ?_
  intro e w3 hp
  rw [cnOk_like hlike] at hp
  rcases hp.cases' with ⟨hok, rfl, hxx⟩ | ⟨hok, b2, rfl, hb, hbk, hxx⟩
  · rw [hok]
    exact ⟨_, rfl, told_yes w3, hxx⟩
  · rw [hok]
    exact ⟨_, rfl, told_cn b2 x w3 hbk, hxx⟩
end Go.Proofs.YtnefafkdfcmmfaaGreatDoor
end
section
namespace Go.Proofs.YtnefafkdfcmmfaaGreatDoor
open Go.RowKit

set_option maxHeartbeats 8000000 in
set_option maxRecDepth 100000 in
theorem FnCommon_any (Ay Ao : Option Addr) (ny cy no co : Nat) (ys os : List ByteArray) (x : ByteArray) (w : World) (hy : RdS w Ay ny ys) (ho : RdS w Ao no os) (ht : SpTab w) :
    Calls Tryz.prog 5 #[.slice Ay ny cy, .slice Ao no co, .string x] w (BoolPost true w) := by
  have HT := Lib.hid ht; have HY := Lib.hid hy; have HO := Lib.hid ho
  clear ht hy ho
  have HQ : Hid (∀ (p r : Bool), toldP (p && !r) (numOf (p && !r) 1) (numOf (p && !r) 1) (if p && !r then 0 else 1) = true) := fun p r => by cases p <;> cases r <;> rfl
  go_enter Tryz.func5, Tryz.ntmps5
  go_wp2_with fail
  refine (zzFits2_any Ay ny cy ys w HY.out).mono ?_
  rintro e w1 ⟨f1, rfl, hf1, hb1⟩
  have HF1 := Lib.hid hf1; have HB1 := Lib.hid hb1; clear hf1 hb1
  cases f1 with
  | false =>
    go_wp2
    go_ret
    exact ⟨rfl, HB1.out⟩
  | true =>
  go_wp2_with fail
  refine (zzFits2_any Ao no co os w1 (HO.out.ext HB1.out)).mono ?_
  rintro e w2 ⟨f2, rfl, hf2, hb2⟩
  have HF2 := Lib.hid hf2; have HB2 := Lib.hid (HB1.out.tr hb2); clear hf2 hb2
  cases f2 with
  | false =>
    go_wp2
    go_ret
    exact ⟨rfl, HB2.out⟩
  | true =>
  by_cases hbx : (2147483647 : Int) < (x.size : Int)
  · go_wp2
    go_ret
    exact ⟨rfl, HB2.out⟩
  · have HPB : Hid (Blk (w2.alloc (.cells (cnPol ⟨Ay, ny, cy, ys⟩ ⟨Ao, no, co, os⟩).cells 24)) w2.heap.size 24 (cnPol ⟨Ay, ny, cy, ys⟩ ⟨Ao, no, co, os⟩).cells) := Blk.new _ _ _
    have HX2 : Hid (Ext w (w2.alloc (.cells (cnPol ⟨Ay, ny, cy, ys⟩ ⟨Ao, no, co, os⟩).cells 24))) := HB2.out.alloc _
    have hyok : (⟨Ay, ny, cy, ys⟩ : Sl).ok w2 := ⟨HY.out.ext HB2.out, by simpa using HF1.out⟩
    have hook : (⟨Ao, no, co, os⟩ : Sl).ok w2 := ⟨HO.out.ext HB2.out, by simpa using HF2.out⟩
    have HYK := Lib.hid hyok; have HOK := Lib.hid hook
    clear hyok hook
    obtain ⟨B, hB⟩ : ∃ B, B = w2.heap.size := ⟨_, rfl⟩
    go_wp2_with fail
    refine (Labels_any x _ (by omega)).mono ?_
    rintro e w3 ⟨A1, n1, c1, ls, rfl, hrx, hls, hb3⟩
    clear hrx hls
    have HX3 : Hid (Ext w w3) := HX2.out.tr hb3
    have HPB3 : Hid (Blk w3 w2.heap.size 24 (cnPol ⟨Ay, ny, cy, ys⟩ ⟨Ao, no, co, os⟩).cells) := HPB.out.ext hb3
    have HE3 : Hid (Ext w2 w3) := ((Ext.refl w2).alloc _).tr hb3
    clear hb3 HPB HX2
    rw [← hB] at HPB3
    rw [← hB]
    clear hB
    cases hn : Pl.isName (bl x) with
    | false =>
      clear hn
      go_wp2
      go_ret
      exact ⟨rfl, HX3.out⟩
    | true =>
      have HN := Lib.hid hn; clear hn
      have l0 : w3.cell? ⟨B, 0, none⟩ = some (.slice none 0 0) := HPB3.out.cell 0
      have l1 : w3.cell? ⟨B, 1, none⟩ = some (.slice none 0 0) := HPB3.out.cell 1
      have l2 : w3.cell? ⟨B, 2, none⟩ = some (.slice none 0 0) := HPB3.out.cell 2
      have l3 : w3.cell? ⟨B, 3, none⟩ = some (.slice none 0 0) := HPB3.out.cell 3
      have l4 : w3.cell? ⟨B, 4, none⟩ = some (.slice none 0 0) := HPB3.out.cell 4
      have l5 : w3.cell? ⟨B, 5, none⟩ = some (.slice none 0 0) := HPB3.out.cell 5
      have l6 : w3.cell? ⟨B, 6, none⟩ = some (.slice none 0 0) := HPB3.out.cell 6
      have l7 : w3.cell? ⟨B, 7, none⟩ = some (.slice none 0 0) := HPB3.out.cell 7
      have l8 : w3.cell? ⟨B, 8, none⟩ = some (.slice Ay ny cy) := HPB3.out.cell 8
      have l9 : w3.cell? ⟨B, 9, none⟩ = some (.slice Ao no co) := HPB3.out.cell 9
      have l10 : w3.cell? ⟨B, 10, none⟩ = some (.slice none 0 0) := HPB3.out.cell 10
      have l11 : w3.cell? ⟨B, 11, none⟩ = some (.slice none 0 0) := HPB3.out.cell 11
      have l12 : w3.cell? ⟨B, 12, none⟩ = some (.bool false) := HPB3.out.cell 12
      have l13 : w3.cell? ⟨B, 13, none⟩ = some (.bool true) := HPB3.out.cell 13
      go_wp2_with fail
      clear l0 l1 l2 l3 l4 l5 l6 l7 l8 l9 l10 l11 l12 l13
      refine (show Calls Tryz.prog 8 _ _ _ from IsPolicy_any (cnPol ⟨Ay, ny, cy, ys⟩ ⟨Ao, no, co, os⟩) w3 (cnPol_ok _ _ w3 (HYK.out.ext HE3.out) (HOK.out.ext HE3.out))).mono ?_
      rintro e w4 ⟨rfl, hb4⟩
      have HX4 := Lib.hid (HX3.out.tr hb4); have HPB4 := Lib.hid (HPB3.out.ext hb4); have HE4 := Lib.hid (HE3.out.tr hb4)
      clear hb4 HX3 HPB3 HE3
      cases hrt : (cnPol ⟨Ay, ny, cy, ys⟩ ⟨Ao, no, co, os⟩).right with
      | false =>
        clear hrt
        go_wp2
        go_ret
        exact ⟨rfl, HX4.out⟩
      | true =>
      have hcn : areP pNam ys = true ∧ areP pNam os = true := by
        unfold Pol.right at hrt
        simp only [Bool.and_eq_true] at hrt
        exact ⟨hrt.1.1.1.2, hrt.1.1.2⟩
      clear hrt
      have hyx : ∀ s ∈ ys, Pl.isName (bl s) = true := by
        have := hcn.1
        unfold areP at this
        rw [Bool.and_eq_true, List.all_eq_true] at this
        exact this.1
      have hox : ∀ s ∈ os, Pl.isName (bl s) = true := by
        have := hcn.2
        unfold areP at this
        rw [Bool.and_eq_true, List.all_eq_true] at this
        exact this.1
      have hy6 : ny ≤ 6 := by
        have := hcn.1
        unfold areP at this
        rw [Bool.and_eq_true, decide_eq_true_eq, HY.out.1] at this
        exact this.2
      have ho6 : no ≤ 6 := by
        have := hcn.2
        unfold areP at this
        rw [Bool.and_eq_true, decide_eq_true_eq, HO.out.1] at this
        exact this.2
      have HYX := Lib.hid hyx; have HOX := Lib.hid hox
      clear hcn hyx hox
      by_cases h0 : ny = 0
      · have h00 : ((ny : Int) == 0) = true := by rw [beq_iff_eq]; omega
        clear h0
        go_wp2
        go_ret
        exact ⟨rfl, HX4.out⟩
      · have h00 : ((ny : Int) == 0) = false := by rw [beq_eq_false_iff_ne]; omega
        have HNE : Hid (ys ≠ []) := by
          intro h
          have := HY.out.1
          rw [h] at this
          exact h0 this.symm
        clear h0
        go_wp2
        go_loopw [10, 55] (fun v i wr => ∃ k : Nat, i = .int .i64 k ∧ k ≤ ny ∧ v = .bool (anyN (ys.take k) x) ∧ Ext w4 wr) (fun _ i _ => ny - (intOf i).toNat)
        case atStart => exact ⟨0, rfl, by omega, rfl, Ext.refl _⟩
        case round =>
          obtain ⟨k, rfl, hk, rfl, hb⟩ := hrel
          by_cases hlt : k < ny
          · have hkx : k < ys.length := by rw [HY.out.1]; exact hlt
            obtain ⟨ad, rfl, hc⟩ := (HY.out.ext (HX4.out.tr hb)).2.2 k hkx
            obtain ⟨s, hs⟩ : ∃ s, s = ys[k] := ⟨_, rfl⟩
            rw [← hs] at hc
            have hsn : Hid (Pl.isName (bl s) = true) := by unfold Hid; rw [hs]; exact HYX.out _ (List.getElem_mem hkx)
            have hst : Hid (anyN (ys.take (k + 1)) x = (anyN (ys.take k) x || domP (bl s) (bl x))) := by
              unfold Hid anyN
              rw [List.take_succ_eq_append_getElem hkx, List.any_append, ← hs]
              simp
            clear hs
            cases hv : anyN (ys.take k) x with
            | true =>
              have HV := Lib.hid hv; clear hv
              go_wp2
              go_roundw
              case rel => exact ⟨k + 1, by go_num, by omega, by rw [hst.out, HV.out]; rfl, hb⟩
              case measure => simp [intOf]; omega
            | false =>
              have HV := Lib.hid hv; clear hv
              go_wp2_with fail
              refine (Domain_any s x _ hsn.out HN.out).mono ?_
              rintro e w6 ⟨rfl, hb6⟩
              go_wp2
              go_roundw
              case rel => exact ⟨k + 1, by go_num, by omega, by rw [hst.out, HV.out]; rfl, hb.tr hb6⟩
              case measure => simp [intOf]; omega
          · obtain rfl : k = ny := by omega
            rw [List.take_of_length_le (by rw [HY.out.1]; omega)]
            have HX5 := Lib.hid (HX4.out.tr hb); have HPB5 := Lib.hid (HPB4.out.ext hb)
            clear hb hlt hk
            obtain ⟨wo, rfl⟩ : ∃ wo : World, wo = wr := ⟨_, rfl⟩
            obtain ⟨P, hP⟩ : ∃ P, P = anyN ys x := ⟨_, rfl⟩
            rw [← hP]
            have HP := Lib.hid hP; clear hP
            have hon := HO.out.2.1
            go_wp2
            go_loopw [11, 68] (fun v i wr => ∃ j : Nat, i = .int .i64 j ∧ j ≤ no ∧ v = .bool (anyN (os.take j) x) ∧ Ext wo wr) (fun _ i _ => no - (intOf i).toNat)
            case atStart => exact ⟨0, rfl, by omega, rfl, Ext.refl _⟩
            case round =>
              obtain ⟨j, rfl, hj, rfl, hb⟩ := hrel
              by_cases hlt : j < no
              · have hjx : j < os.length := by rw [HO.out.1]; exact hlt
                obtain ⟨ad, rfl, hc⟩ := (HO.out.ext (HX5.out.tr hb)).2.2 j hjx
                obtain ⟨s, hs⟩ : ∃ s, s = os[j] := ⟨_, rfl⟩
                rw [← hs] at hc
                have hsn : Hid (Pl.isName (bl s) = true) := by unfold Hid; rw [hs]; exact HOX.out _ (List.getElem_mem hjx)
                have hst : Hid (anyN (os.take (j + 1)) x = (anyN (os.take j) x || domP (bl s) (bl x))) := by
                  unfold Hid anyN
                  rw [List.take_succ_eq_append_getElem hjx, List.any_append, ← hs]
                  simp
                clear hs
                cases hv : anyN (os.take j) x with
                | true =>
                  have HV := Lib.hid hv; clear hv
                  go_wp2
                  go_roundw
                  case rel => exact ⟨j + 1, by go_num, by omega, by rw [hst.out, HV.out]; rfl, hb⟩
                  case measure => simp [intOf]; omega
                | false =>
                  have HV := Lib.hid hv; clear hv
                  go_wp2_with fail
                  refine (Domain_any s x _ hsn.out HN.out).mono ?_
                  rintro e w6 ⟨rfl, hb6⟩
                  go_wp2
                  go_roundw
                  case rel => exact ⟨j + 1, by go_num, by omega, by rw [hst.out, HV.out]; rfl, hb.tr hb6⟩
                  case measure => simp [intOf]; omega
              · obtain rfl : j = no := by omega
                rw [List.take_of_length_le (by rw [HO.out.1]; omega)]
                have HX6 := Lib.hid (HX5.out.tr hb); have HPB6 := Lib.hid (HPB5.out.ext hb)
                clear hb hlt hj
                obtain ⟨R, hR⟩ : ∃ R, R = anyN os x := ⟨_, rfl⟩
                rw [← hR]
                have HR := Lib.hid hR; clear hR
                have HNM : Hid (∀ w', Ext wr w' → Calls Tryz.prog 17 #[(cnPol ⟨Ay, k, cy, ys⟩ ⟨Ao, j, co, os⟩).val, .string x, .slice none 0 0, .slice none 0 0, .slice none 0 0, .slice none 0 0] w' (fun e w2 => e = .returned (.tuple #[.bool (P && !R), .int .i64 (numOf (P && !R) 1), .int .i64 (numOf (P && !R) 1)]) ∧ Ext w' w2)) := by
                  intro w' hw'
                  rw [HP.out, HR.out]
                  exact Names_cn ⟨Ay, k, cy, ys⟩ ⟨Ao, j, co, os⟩ x w' ⟨HY.out.ext (HX6.out.tr hw'), HYK.out.2⟩ ⟨HO.out.ext (HX6.out.tr hw'), HOK.out.2⟩ (by show k ≤ 20; omega) (by show j ≤ 20; omega) HYX.out HOX.out HNE.out HN.out (HT.out.ext (HX6.out.tr hw'))
                have l0 : wr.cell? ⟨B, 0, none⟩ = some (.slice none 0 0) := HPB6.out.cell 0
                have l1 : wr.cell? ⟨B, 1, none⟩ = some (.slice none 0 0) := HPB6.out.cell 1
                have l2 : wr.cell? ⟨B, 2, none⟩ = some (.slice none 0 0) := HPB6.out.cell 2
                have l3 : wr.cell? ⟨B, 3, none⟩ = some (.slice none 0 0) := HPB6.out.cell 3
                have l4 : wr.cell? ⟨B, 4, none⟩ = some (.slice none 0 0) := HPB6.out.cell 4
                have l5 : wr.cell? ⟨B, 5, none⟩ = some (.slice none 0 0) := HPB6.out.cell 5
                have l6 : wr.cell? ⟨B, 6, none⟩ = some (.slice none 0 0) := HPB6.out.cell 6
                have l7 : wr.cell? ⟨B, 7, none⟩ = some (.slice none 0 0) := HPB6.out.cell 7
                have l8 : wr.cell? ⟨B, 8, none⟩ = some (.slice Ay k cy) := HPB6.out.cell 8
                have l9 : wr.cell? ⟨B, 9, none⟩ = some (.slice Ao j co) := HPB6.out.cell 9
                have l10 : wr.cell? ⟨B, 10, none⟩ = some (.slice none 0 0) := HPB6.out.cell 10
                have l11 : wr.cell? ⟨B, 11, none⟩ = some (.slice none 0 0) := HPB6.out.cell 11
                have l12 : wr.cell? ⟨B, 12, none⟩ = some (.bool false) := HPB6.out.cell 12
                have l13 : wr.cell? ⟨B, 13, none⟩ = some (.bool true) := HPB6.out.cell 13
                cases P with
                | false =>
                  have HNN : Hid (∀ w', Ext wr w' → Calls Tryz.prog 17 #[(cnPol ⟨Ay, k, cy, ys⟩ ⟨Ao, j, co, os⟩).val, .string x, .slice none 0 0, .slice none 0 0, .slice none 0 0, .slice none 0 0] w' (fun e w2 => e = .returned (.tuple #[.bool false, .int .i64 1, .int .i64 1]) ∧ Ext w' w2)) := HNM.out
                  go_wp2_with fail
                  refine (show Calls Tryz.prog 17 _ _ _ from HNN.out wr (Ext.refl _)).mono ?_
                  rintro e w7 ⟨rfl, hb7⟩
                  have HX7 := Lib.hid (HX6.out.tr hb7)
                  clear hb7 l0 l1 l2 l3 l4 l5 l6 l7 l8 l9 l10 l11 l12 l13
                  go_wp2_with fail
                  refine (ltold_any _ _ _ _ w7).mono ?_
                  rintro e _ ⟨rfl, rfl⟩
                  rw [show toldP false 1 1 1 = true from rfl]
                  go_wp2_with fail
                  refine (answers_any _ (HT.out.ext HX7.out)).mono ?_
                  rintro e w8 ⟨rfl, hb8⟩
                  have HX8 := Lib.hid (HX7.out.tr hb8); clear hb8
                  go_wp2
                  go_ret
                  exact ⟨rfl, HX8.out⟩
                | true =>
                  cases R with
                  | true =>
                    have HNN : Hid (∀ w', Ext wr w' → Calls Tryz.prog 17 #[(cnPol ⟨Ay, k, cy, ys⟩ ⟨Ao, j, co, os⟩).val, .string x, .slice none 0 0, .slice none 0 0, .slice none 0 0, .slice none 0 0] w' (fun e w2 => e = .returned (.tuple #[.bool false, .int .i64 1, .int .i64 1]) ∧ Ext w' w2)) := HNM.out
                    go_wp2_with fail
                    refine (show Calls Tryz.prog 17 _ _ _ from HNN.out wr (Ext.refl _)).mono ?_
                    rintro e w7 ⟨rfl, hb7⟩
                    have HX7 := Lib.hid (HX6.out.tr hb7)
                    clear hb7 l0 l1 l2 l3 l4 l5 l6 l7 l8 l9 l10 l11 l12 l13
                    go_wp2_with fail
                    refine (ltold_any _ _ _ _ w7).mono ?_
                    rintro e _ ⟨rfl, rfl⟩
                    rw [show toldP false 1 1 1 = true from rfl]
                    go_wp2_with fail
                    refine (answers_any _ (HT.out.ext HX7.out)).mono ?_
                    rintro e w8 ⟨rfl, hb8⟩
                    have HX8 := Lib.hid (HX7.out.tr hb8); clear hb8
                    go_wp2
                    go_ret
                    exact ⟨rfl, HX8.out⟩
                  | false =>
                    have HNN : Hid (∀ w', Ext wr w' → Calls Tryz.prog 17 #[(cnPol ⟨Ay, k, cy, ys⟩ ⟨Ao, j, co, os⟩).val, .string x, .slice none 0 0, .slice none 0 0, .slice none 0 0, .slice none 0 0] w' (fun e w2 => e = .returned (.tuple #[.bool true, .int .i64 0, .int .i64 0]) ∧ Ext w' w2)) := HNM.out
                    go_wp2_with fail
                    refine (show Calls Tryz.prog 17 _ _ _ from HNN.out wr (Ext.refl _)).mono ?_
                    rintro e w7 ⟨rfl, hb7⟩
                    have HX7 := Lib.hid (HX6.out.tr hb7)
                    clear hb7 l0 l1 l2 l3 l4 l5 l6 l7 l8 l9 l10 l11 l12 l13
                    go_wp2_with fail
                    refine (ltold_any _ _ _ _ w7).mono ?_
                    rintro e _ ⟨rfl, rfl⟩
                    rw [show toldP true 0 0 0 = true from rfl]
                    go_wp2_with fail
                    refine (answers_any _ (HT.out.ext HX7.out)).mono ?_
                    rintro e w8 ⟨rfl, hb8⟩
                    have HX8 := Lib.hid (HX7.out.tr hb8); clear hb8
                    go_wp2
                    go_ret
                    exact ⟨rfl, HX8.out⟩
end Go.Proofs.YtnefafkdfcmmfaaGreatDoor
end
