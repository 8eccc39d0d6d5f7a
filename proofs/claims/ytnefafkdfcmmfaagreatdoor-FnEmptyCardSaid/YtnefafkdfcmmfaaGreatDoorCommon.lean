/- The walks of validateCommonName and ZZAllowed. -/
import Derived.Test.YtnefafkdfcmmfaaGreatDoorSplit
import Derived.Test.YtnefafkdfcmmfaaGreatDoorAns
namespace Go.Proofs.YtnefafkdfcmmfaaGreatDoor
open Go.RowKit

theorem matchCN_any (x c : ByteArray) (w : World) (hsx : x.size ≤ 2147483647) (hx : vis (bl x)) (hc : Pl.isName (bl c) = true) :
    Calls Tryz.prog 121 #[.string x, .string c] w (MatchPost (Pl.small (bl x) == Pl.small (bl c)) w) := by
  have hst1 : ¬ c.toList = [42] := by
    rw [toList_bl]
    intro e
    have := Pl.isName_mem hc 42 (by rw [e]; simp)
    revert this; decide
  have hst2 : (c.toList == [42]) = false := by rw [beq_eq_false_iff_ne]; exact hst1
  have hvc : vis (bl c) := fun y hy => by have := Pl.nc_range y (Pl.isName_mem hc y hy); exact ⟨this.1, this.2.1⟩
  have HX := Lib.hid hx; have HC := Lib.hid hvc
  clear hx hc hvc
  go_enter Tryz.func121, Tryz.ntmps121
  go_wp2_with fail
  refine (fold_any x c _ hsx HX.out HC.out).mono ?_
  rintro e w1 ⟨rfl, hb⟩
  go_wp2
  go_ret2
  exact ⟨rfl, hb⟩
theorem vcn1_any (b : Nat) (x c : ByteArray) (w : World) (hs : w.cell? ⟨b, 0, none⟩ = some (.string x)) (hsx : x.size ≤ 2147483647) (hx : vis (bl x)) (hc : Pl.isName (bl c) = true) :
    Calls Tryz.prog 120 #[.string c, .pointer (some ⟨b, 0, none⟩)] w (MatchPost (Pl.small (bl x) == Pl.small (bl c)) w) := by
  have HM := Lib.hid (matchCN_any x c w hsx hx hc)
  clear hx hc
  go_enter Tryz.func120, Tryz.ntmps120
  go_wp2_with fail
  refine HM.out.mono ?_
  rintro e w1 ⟨rfl, hb⟩
  go_wp2
  go_ret2
  exact ⟨rfl, hb⟩
theorem call_vcn1 (args : Array Value) (w : World) : (callFunc 120 args).run Tryz.prog w = .ok (.enter 120 args) w := by
  unfold callFunc
  simp [go_sem, Tryz.func120, Tryz.f120]
theorem run_assert_pe (b : Nat) (w : World) : (Instr.typeAssert (.iface 96 (.pointer (some ⟨b, 0, none⟩))) 47 96 true).run Tryz.prog w = .ok (.tuple #[.pointer (some ⟨b, 0, none⟩), .bool true]) w := run_assert _ w
/-- What a common name is held against. -/
def cnOk (a : AE) (x : List UInt8) : Bool := allows (fun c => Pl.small x == Pl.small c) a.cn a.ncn
set_option maxHeartbeats 8000000 in
set_option maxRecDepth 100000 in
theorem vcn_any (g : Nat) (x : ByteArray) (a : AE) (w : World) (hE : EngFin w g a) (hx : Pl.isName (bl x) = true) (hcon : ∀ c, c ∈ a.cn ∨ c ∈ a.ncn → Pl.isName c = true) (h1 : 0 < a.cn.length) (h2 : a.dns.length = 0) (h3 : a.ndns.length = 0) :
    Calls Tryz.prog 69 #[.pointer (some ⟨g, 0, none⟩), .string x] w (NotPost (cnOk a (bl x)) ⟨#[99, 110]⟩ x w) := by
  obtain ⟨f, hE, hcn⟩ := hE
  have hlt := hE.blk.lt
  have h22 : w.cell? ⟨g, 22, none⟩ = some (.int .i64 f.k9) := hE.blk.cell 22
  have h14 : w.cell? ⟨g, 14, none⟩ = some (.int .i64 f.k1) := hE.blk.cell 14
  have hk9 : (f.k9 == 0) = false := by
    have h1 := hcn
    unfold Counted at h1
    rw [beq_eq_false_iff_ne]
    omega
  have hk1 : 0 < f.k1 := by
    have h1 := hcn
    unfold Counted at h1
    omega
  have hk2 : f.k2 = 0 := by
    have h1 := hcn
    unfold Counted at h1
    omega
  have hk7 : 0 < f.k7 := by
    have h1 := hcn
    unfold Counted at h1
    omega
  have hzx : x.size ≤ 43 := by rw [← bl_length]; exact Pl.name_len hx
  have hvis : vis (bl x) := fun y hy => by have := Pl.nc_range y (Pl.isName_mem hx y hy); exact ⟨this.1, this.2.1⟩
  have hne := nonempty_list (s := x) (Pl.name_ne hx)
  obtain ⟨hne1, hne2⟩ := hne
  have HE := Lib.hid hE; have HCON := Lib.hid hcon; have HXN := Lib.hid hx; have HV := Lib.hid hvis
  clear hE hcn hcon hx hvis
  have HX0 : Hid (Ext w (w.alloc (.cells #[.string x] 9))) := (Ext.refl w).alloc _
  have HB0 : Hid (Blk (w.alloc (.cells #[.string x] 9)) w.heap.size 9 #[.string x]) := Blk.new _ _ _
  have hmf : ∀ (fn : Fn) (first cap : Array Value) (w : World), (Instr.makeFunc fn first cap).run Tryz.prog w = .ok (.func fn first cap) w := fun _ _ _ _ => rfl
  have hta := run_assert_pe
  have h22a := HX0.out.cell h22
  have h14a := HX0.out.cell h14
  have hD0 : (w.alloc (.cells #[.string x] 9)).cell? ⟨w.heap.size, 0, none⟩ = some (.string x) := HB0.out.cell 0
  go_enter Tryz.func69, Tryz.ntmps69
  go_wp2
  generalize w.alloc (.cells #[.string x] 9) = w1 at HX0 HB0 hD0 h22a h14a ⊢
  generalize hDD : w.heap.size = D at HB0 hD0 ⊢
  clear h22 h14
  have HE1 := Lib.hid (HE.out.ext HX0.out)
  obtain ⟨Ap, np, cp, xsp, ep, rp, mp, sp, _⟩ := HE1.out.cn
  obtain ⟨Aq, nq, cq, xsq, eq, rq, mq, sq, _⟩ := HE1.out.ncn
  have HCHK : Hid (∀ w', Ext w1 w' → Calls Tryz.prog 99 #[.string ⟨#[99, 110]⟩, .string x, .func (.func 120) #[] #[.pointer (some ⟨D, 0, none⟩)], .slice Ap np cp, .slice Aq nq cq] w' (NotPost (cnOk a (bl x)) ⟨#[99, 110]⟩ x w')) := by
    intro w' hw'
    have hcc : ∀ c, c ∈ xsp ∨ c ∈ xsq → Pl.isName (bl c) = true := by
      intro c hc
      rcases hc with hc | hc
      · exact HCON.out (bl c) (.inl (by rw [← mp]; exact List.mem_map.2 ⟨c, hc, rfl⟩))
      · exact HCON.out (bl c) (.inr (by rw [← mq]; exact List.mem_map.2 ⟨c, hc, rfl⟩))
    have := chk_any ⟨#[99, 110]⟩ x 120 #[.pointer (some ⟨D, 0, none⟩)] (fun c => Pl.small (bl x) == Pl.small c) Ap Aq np nq cp cq xsp xsq w' (rp.ext hw') (rq.ext hw') call_vcn1 (fun c hc w2 hw2 => vcn1_any D x c w2 ((HB0.out.ext (hw'.tr hw2)).cell 0) (by omega) HV.out (hcc c hc))
    rw [mp, mq] at this
    exact this
  have hg2 : w1.cell? ⟨g, 2, none⟩ = some (.slice Ap np cp) := by rw [← ep]; exact HE1.out.blk.cell 2
  have hg3 : w1.cell? ⟨g, 3, none⟩ = some (.slice Aq nq cq) := by rw [← eq]; exact HE1.out.blk.cell 3
  clear ep rp mp sp eq rq mq sq
  cases hok : cnOk a (bl x) with
  | true =>
    have HC : Hid (∀ w', Ext w1 w' → Calls Tryz.prog 99 #[.string ⟨#[99, 110]⟩, .string x, .func (.func 120) #[] #[.pointer (some ⟨D, 0, none⟩)], .slice Ap np cp, .slice Aq nq cq] w' (fun e w2 => e = .returned .nilIface ∧ Ext w' w2)) := fun w' hw' => by
      have h := HCHK.out w' hw'
      rw [hok] at h
      exact h.mono fun e w2 h => ⟨h.2, h.1⟩
    have HOK := Lib.hid hok
    clear hok
    go_region_held3 (fun w' => Ext w1 w' ∧ w'.cell? ⟨D, 0, none⟩ = some (.string x) ∧ w'.cell? ⟨g, 2, none⟩ = some (.slice Ap np cp) ∧ w'.cell? ⟨g, 3, none⟩ = some (.slice Aq nq cq)) (first | exact ⟨Ext.drew (Ext.refl _), hD0, hg2, hg3⟩ | exact ⟨by assumption, Ext.cell (by assumption) hD0, Ext.cell (by assumption) hg2, Ext.cell (by assumption) hg3⟩) ((go_at_call 99; (refine (HC.out _ (by first | assumption | exact And.left (by assumption))).mono ?_); rintro _ _ ⟨rfl, hx1⟩; have hx45 := Ext.tr (by first | assumption | exact And.left (by assumption)) hx1))
    go_wp2
    go_ret
    exact .yes HOK.out rfl (HX0.out.tr hx45)
  | false =>
    have HC : Hid (∀ w', Ext w1 w' → Calls Tryz.prog 99 #[.string ⟨#[99, 110]⟩, .string x, .func (.func 120) #[] #[.pointer (some ⟨D, 0, none⟩)], .slice Ap np cp, .slice Aq nq cq] w' (fun e w2 => ∃ b, e = .returned (.iface 96 (.pointer (some ⟨b, 0, none⟩))) ∧ Ext w' w2)) := fun w' hw' => by
      have h := HCHK.out w' hw'
      rw [hok] at h
      exact h.mono fun e w2 h => by
        obtain ⟨h1, b, h2, h3, h4⟩ := h
        exact ⟨b, h3, h1⟩
    have HOK := Lib.hid hok
    clear hok
    go_region_held3 (fun w' => Ext w1 w' ∧ w'.cell? ⟨D, 0, none⟩ = some (.string x) ∧ w'.cell? ⟨g, 2, none⟩ = some (.slice Ap np cp) ∧ w'.cell? ⟨g, 3, none⟩ = some (.slice Aq nq cq)) (first | exact ⟨Ext.drew (Ext.refl _), hD0, hg2, hg3⟩ | exact ⟨by assumption, Ext.cell (by assumption) hD0, Ext.cell (by assumption) hg2, Ext.cell (by assumption) hg3⟩) ((go_at_call 99; (refine (HC.out _ (by first | assumption | exact And.left (by assumption))).mono ?_); rintro _ w3 ⟨b0, rfl, hx1⟩; have hx45 : Ext w1 w3 := Ext.tr (by first | assumption | exact And.left (by assumption)) hx1))
    have HX3 : Hid (Ext w w3) := HX0.out.tr hx45
    have hD3 := hx45.cell hD0
    clear hg2 hg3 h22a h14a
    go_wp2_with fail
    have hone : RdS (w3.alloc (.cells #[.string x] 9)) (some ⟨w3.heap.size, 0, none⟩) 1 [x] := ⟨rfl, by omega, fun j hj => ⟨_, rfl, by
      obtain rfl : j = 0 := by simp at hj; exact hj
      exact (Blk.new w3 9 #[.string x]).cell 0⟩⟩
    refine (split_name x (some ⟨w3.heap.size, 0, none⟩) 1 _ hone HXN.out).mono ?_
    rintro e w4 ⟨A5, c5, rfl, hrd, hx4⟩
    have HX4 : Hid (Ext w w4) := (HX3.out.alloc _).tr hx4
    have HRD := Lib.hid hrd
    clear hx4 hone hrd hD3
    have HE4 := Lib.hid ((HE.out.ext HX4.out).ext ((Ext.refl w4).alloc (.cells #[] 9)))
    have HRD5 : Hid (RdS (w4.alloc (.cells #[] 9)) A5 1 [x]) := HRD.out.ext ((Ext.refl _).alloc _)
    go_wp2_with fail
    refine (vn_other g A5 none none none (some ⟨w4.heap.size, 0, none⟩) c5 0 0 0 0 x f.k9 f.k7 _ (HE4.out.blk.cell 22) hk9 (by rw [← hk2]; exact HE4.out.blk.cell 15) (HE4.out.blk.cell 20) hk7 HRD5.out).mono ?_
    rintro e w5 hpost
    rcases hpost.cases' with ⟨hF, _⟩ | ⟨_, b, rfl, hb, hbk, hxx⟩
    · cases hF
    · have HX5 : Hid (Ext w w5) := (HX4.out.alloc _).tr hxx
      have HBK := Lib.hid hbk
      have hle : w.heap.size ≤ b := Nat.le_trans (HX4.out.alloc _).size hb
      have hc1 : w5.cell? ⟨b, 1, none⟩ = some (.string ⟨#[100, 110, 115]⟩) := HBK.out.cell 1
      have hf1 : w5.frozen? ⟨b, 1, none⟩ = false := HBK.out.frozen 1
      have HEND : Hid (Ext w (w5.setCell ⟨b, 1, none⟩ (.string ⟨#[99, 110]⟩))) := Below.setCell HX5.out hle _
      have HBE : Hid (Blk (w5.setCell ⟨b, 1, none⟩ (.string ⟨#[99, 110]⟩)) b 100 #[.int .i64 1, .string ⟨#[99, 110]⟩, .string x]) := HBK.out.set_ 1 _
      clear hpost hbk hxx hb
      go_wp2
      go_ret
      exact .no HOK.out rfl hle HBE.out HEND.out
set_option maxHeartbeats 4000000 in
set_option maxRecDepth 100000 in
/-- Names of no kind, and a common name. -/
theorem allowed_cn (g : Nat) (x : ByteArray) (a : AE) (A1 A2 A3 A4 : Option Addr) (c1 c2 c3 c4 : Nat) (w : World) (hE : EngFin w g a) (hv : a.ver = true) (hx : Pl.isName (bl x) = true) (hcon : ∀ c, c ∈ a.cn ∨ c ∈ a.ncn → Pl.isName c = true) (h1 : 0 < a.cn.length) (h2 : a.dns.length = 0) (h3 : a.ndns.length = 0) :
    Calls Tryz.prog 36 #[.pointer (some ⟨g, 0, none⟩), .slice A1 0 c1, .slice A2 0 c2, .slice A3 0 c3, .slice A4 0 c4, .string x] w (NotPost (cnOk a (bl x)) ⟨#[99, 110]⟩ x w) := by
  have HV : Hid (∀ w', Ext w w' → Calls Tryz.prog 69 #[.pointer (some ⟨g, 0, none⟩), .string x] w' (NotPost (cnOk a (bl x)) ⟨#[99, 110]⟩ x w')) := fun w' hw' => vcn_any g x a w' (hE.ext hw') hx hcon h1 h2 h3
  obtain ⟨f, hE, hcn⟩ := hE
  have hk9 : (f.k9 == 0) = false := by
    have h1 := hcn
    unfold Counted at h1
    rw [beq_eq_false_iff_ne]
    omega
  have hver : w.cell? ⟨g, 0, none⟩ = some (.bool true) := by rw [← hv]; exact hE.blk.cell 0
  have h22 : (w.alloc (.cells #[] 9)).cell? ⟨g, 22, none⟩ = some (.int .i64 f.k9) := (hE.blk.alloc _).cell 22
  clear hE hcn hx hcon h1 h2 h3 hv
  go_enter Tryz.func36, Tryz.ntmps36
  go_wp2_with fail
  refine (vn_none g A1 A2 A3 A4 (some ⟨w.heap.size, 0, none⟩) c1 c2 c3 c4 0 f.k9 _ h22 hk9).mono ?_
  rintro e w1 ⟨rfl, hb1⟩
  have HX1 : Hid (Ext w w1) := ((Ext.refl w).alloc _).tr hb1
  have hver1 : w1.cell? ⟨g, 0, none⟩ = some (.bool true) := HX1.out.cell hver
  clear hb1 hver h22
  go_wp2_with fail
  refine (HV.out _ HX1.out).mono ?_
  rintro e w2 hpost
  rcases hpost.cases' with ⟨hok, rfl, hxx⟩ | ⟨hok, b, rfl, hb, hbk, hxx⟩
  · have HOK := Lib.hid hok; have HXX := Lib.hid hxx; clear hok hxx hpost
    go_wp2
    go_ret
    exact .yes HOK.out rfl (HX1.out.tr HXX.out)
  · have HOK := Lib.hid hok; have HXX := Lib.hid hxx; have HBK := Lib.hid hbk; have HB := Lib.hid hb; clear hok hxx hpost hbk hb
    go_wp2
    go_ret
    exact .no HOK.out rfl (Nat.le_trans HX1.out.size HB.out) HBK.out (HX1.out.tr HXX.out)
set_option maxHeartbeats 4000000 in
set_option maxRecDepth 100000 in
/-- Where there are no constraints, and common names are not asked. -/
theorem allowed_zero (g : Nat) (a : AE) (v1 v2 v3 v4 v5 : Value) (w : World) (hE : EngFin w g a) (hv : a.ver = false) (h0 : a.cn = [] ∧ a.ncn = [] ∧ a.dns = [] ∧ a.ndns = [] ∧ a.ip = [] ∧ a.nip = [] ∧ a.em = [] ∧ a.nem = [] ∧ a.uri = [] ∧ a.nuri = [] ∧ a.pr = [] ∧ a.npr = []) :
    Calls Tryz.prog 36 #[.pointer (some ⟨g, 0, none⟩), v1, v2, v3, v4, v5] w (fun e w' => e = .returned .nilIface ∧ Ext w w') := by
  obtain ⟨f, hE, hcn⟩ := hE
  have hk9 : f.k9 = 0 := by
    have h1 := hcn
    obtain ⟨e1, e2, e3, e4, e5, e6, e7, e8, e9, e10, e11, e12⟩ := h0
    unfold Counted at h1
    rw [e1, e2, e3, e4, e5, e6, e7, e8, e9, e10, e11, e12] at h1
    simp only [List.length_nil] at h1
    omega
  have hver : w.cell? ⟨g, 0, none⟩ = some (.bool false) := by rw [← hv]; exact hE.blk.cell 0
  have h22 : (w.alloc (.cells #[] 9)).cell? ⟨g, 22, none⟩ = some (.int .i64 0) := by rw [← hk9]; exact (hE.blk.alloc _).cell 22
  clear hE hcn hv h0
  go_enter Tryz.func36, Tryz.ntmps36
  go_wp2_with fail
  refine (vn_zero g _ _ _ _ _ _ h22).mono ?_
  rintro e w1 ⟨rfl, hb1⟩
  have HX1 : Hid (Ext w w1) := ((Ext.refl w).alloc _).tr hb1
  have hver1 : w1.cell? ⟨g, 0, none⟩ = some (.bool false) := HX1.out.cell hver
  clear hb1 hver h22
  go_wp2
  go_ret
  exact ⟨rfl, HX1.out⟩
end Go.Proofs.YtnefafkdfcmmfaaGreatDoor
