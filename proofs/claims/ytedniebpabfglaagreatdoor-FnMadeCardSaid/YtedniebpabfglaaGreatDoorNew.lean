/- The walk of New. -/
import Derived.Test.YtedniebpabfglaaGreatDoorLike
import Derived.StillTailTactics
namespace Go.Proofs.YtedniebpabfglaaGreatDoor
open Go.RowKit

/-- An option: a function of an engine; what it does to the engine. -/
def OptOK (w0 : World) (fv : Value) (u : AE → AE) : Prop :=
  ∃ (F : FuncId) (cap : Array Value), fv = .func (.func F) #[] cap ∧ (∀ (args : Array Value) (w : World), (callFunc F args).run Tryz.prog w = .ok (.enter F args) w) ∧
    ∀ g a w, Ext w0 w → w0.heap.size ≤ g → EngIs w g a → Calls Tryz.prog F (#[.pointer (some ⟨g, 0, none⟩)] ++ cap) w (OptPost g (u a) w)
/-- A slice of options. -/
def OptS (w0 w : World) (A : Option Addr) (n : Nat) (us : List (AE → AE)) : Prop :=
  us.length = n ∧ n ≤ 1000 ∧ ∀ j, (h : j < us.length) → ∃ ad fv, A = some ad ∧ w.cell? (ad.add j) = some fv ∧ OptOK w0 fv us[j]
/-- The engine of no options. -/
abbrev AE.none : AE := ⟨false, false, [], [], [], [], [], [], [], [], [], [], [], []⟩
def optsOf (us : List (AE → AE)) : AE := us.foldl (fun a u => u a) AE.none
/-- An engine with its counts. -/
def Counted (a : AE) (e : Eng) : Prop := e.k1 = a.cn.length + a.ncn.length ∧ e.k2 = a.dns.length + a.ndns.length ∧ e.k3 = a.ip.length + a.nip.length ∧ e.k4 = a.em.length + a.nem.length ∧ e.k5 = a.uri.length + a.nuri.length ∧ e.k6 = a.pr.length + a.npr.length ∧
  e.k7 = a.cn.length + a.dns.length + a.ip.length + a.em.length + a.uri.length + a.pr.length ∧ e.k8 = a.ncn.length + a.ndns.length + a.nip.length + a.nem.length + a.nuri.length + a.npr.length ∧ e.k9 = e.k7 + e.k8
def EngFin (w : World) (g : Nat) (a : AE) : Prop := ∃ e, EngOK w g a e ∧ Counted a e
def NewPost (w : World) (a : AE) (e : Ending) (w' : World) : Prop :=
  ∃ g a', e = .returned (.tuple #[.pointer (some ⟨g, 0, none⟩), .nilIface]) ∧ w.heap.size ≤ g ∧ EngFin w' g a' ∧ Like a a' ∧ Ext w w'

set_option maxHeartbeats 20000000 in
set_option maxRecDepth 100000 in
theorem new_any (A : Option Addr) (n c : Nat) (us : List (AE → AE)) (w : World) (ho : OptS w w A n us) (hfew : (optsOf us).few)
    (hD : ∀ g v w' l, Ext w w' → g < w'.heap.size → (l = (optsOf us).ip ∨ l = (optsOf us).nip) → NetF w' g v l → Calls Tryz.prog 62 #[v] w' (DupN g l w')) :
    Calls Tryz.prog 37 #[.slice A n c] w (NewPost w (optsOf us)) := by
  have HO := Lib.hid ho; clear ho
  have HF := Lib.hid hfew; clear hfew
  have HD := Lib.hid hD; clear hD
  have hn := HO.out.2.1
  go_enter Tryz.func37, Tryz.ntmps37
  go_wp2
  go_loopw [6, 7, 12, 15, 16, 17, 18, 19, 20] (fun _ _ i _ _ _ _ _ _ wr => ∃ k : Nat, i = .int .i64 k ∧ k ≤ n ∧ EngIs wr w.heap.size (optsOf (us.take k)) ∧ Ext w wr) (fun _ _ i _ _ _ _ _ _ _ => n - (intOf i).toNat)
  case atStart => exact ⟨0, rfl, by omega, ⟨⟨.slice none 0 0, .slice none 0 0, .slice none 0 0, .slice none 0 0, .slice none 0 0, .slice none 0 0, .slice none 0 0, .slice none 0 0, .slice none 0 0, .slice none 0 0, .slice none 0 0, .slice none 0 0, 0, 0, 0, 0, 0, 0, 0, 0, 0⟩, ⟨Blk.new _ _ _, .nil _ _, .nil _ _, .nil _ _, .nil _ _, .nil _ _, .nil _ _, .nil _ _, .nil _ _, .nil _ _, .nil _ _, .nil _ _, .nil _ _⟩⟩, (Ext.refl w).alloc _⟩
  case round =>
    obtain ⟨k, rfl, hk, hE, hb⟩ := hrel
    have HE := Lib.hid hE; clear hE
    by_cases hlt : k < n
    · have hku : k < us.length := by rw [HO.out.1]; exact hlt
      obtain ⟨ad, fv, rfl, hck0, F, cap, rfl, hcf, hF⟩ := HO.out.2.2 k hku
      have hck := hb.cell hck0
      have HFF := Lib.hid hF; clear hF hck0
      go_wp2_with fail
      refine (HFF.out w.heap.size _ _ hb (Nat.le_refl _) HE.out).mono ?_
      rintro e w2 ⟨rfl, hE2, hK2⟩
      have HE2 := Lib.hid hE2; clear hE2
      have hb2 := KeepG.old hb (Nat.le_refl _) hK2
      go_wp2
      go_roundw
      case rel => exact ⟨k + 1, by go_num, by omega, by rw [List.take_succ_eq_append_getElem hku, optsOf, List.foldl_append]; exact HE2.out, hb2⟩
      case measure => simp [intOf]; omega
    · obtain rfl : k = n := by omega
      have hall : us.take k = us := List.take_of_length_le (by rw [HO.out.1]; omega)
      rw [hall] at HE
      obtain ⟨a0, ha0⟩ : ∃ a, a = optsOf us := ⟨_, rfl⟩
      rw [← ha0] at HE HF HD ⊢
      obtain ⟨e0, he0⟩ := HE.out
      have HA0 := Lib.hid ha0
      clear HE hall ha0
      obtain ⟨aa, e1, H0⟩ : ∃ a e, Hid (EngOK wr w.heap.size a e ∧ Ext w wr ∧ Like a0 a ∧ a.ip = a0.ip ∧ a.nip = a0.nip) := ⟨_, _, he0, hb, .refl _, rfl, rfl⟩
      clear he0 hb hlt HO
      have hn0 : wr.cell? ⟨w.heap.size, 2, none⟩ = some e1.cn := H0.out.1.blk.cell 2
      have hg0 : w.heap.size < wr.heap.size := H0.out.1.blk.lt
      go_wp2_with fail
      clear hn0
      refine (dup_f w.heap.size _ _ _ hg0 H0.out.1.cn (HF.out.like H0.out.2.2.1).cn).mono ?_
      rintro e y0 ⟨A0, m0, c0, l0, rfl, hs0, hm0, hx0⟩
      obtain ⟨b0, f0, J0⟩ : ∃ a e, Hid (EngOK y0 w.heap.size a e ∧ Ext w y0 ∧ Like a0 a ∧ a.ip = a0.ip ∧ a.nip = a0.nip ∧ SameT a0.cn l0 ∧ StrF y0 w.heap.size (.slice A0 m0 c0) l0) := ⟨_, _, H0.out.1.ext hx0, H0.out.2.1.tr hx0, H0.out.2.2.1, H0.out.2.2.2.1, H0.out.2.2.2.2, (H0.out.2.2.1.then_cn hm0), hs0⟩
      clear H0 hx0 hm0 hs0 hg0
      have hg1 : w.heap.size < (y0.setCell ⟨w.heap.size, 2, none⟩ (.slice A0 m0 c0)).heap.size := by rw [World.size_setCell]; exact J0.out.1.blk.lt
      have hv1 : y0.cell? ⟨w.heap.size, 2, none⟩ = some f0.cn := J0.out.1.blk.cell 2
      have hw1 : y0.frozen? ⟨w.heap.size, 2, none⟩ = false := J0.out.1.blk.frozen 2
      have H1 : Hid (EngOK (y0.setCell ⟨w.heap.size, 2, none⟩ (.slice A0 m0 c0)) w.heap.size { b0 with cn := l0 } { f0 with cn := .slice A0 m0 c0 } ∧ Ext w (y0.setCell ⟨w.heap.size, 2, none⟩ (.slice A0 m0 c0)) ∧ Like a0 { b0 with cn := l0 } ∧ b0.ip = a0.ip ∧ b0.nip = a0.nip) := ⟨J0.out.1.set_cn _ _ J0.out.2.2.2.2.2.2, Below.setCell J0.out.2.1 (Nat.le_refl _) _, J0.out.2.2.1.set_cn _ J0.out.2.2.2.2.2.1, J0.out.2.2.2.1, J0.out.2.2.2.2.1⟩
      have hy1 : y0.cell? ⟨w.heap.size, 4, none⟩ = some f0.dns := J0.out.1.blk.cell 4
      clear J0
      go_wp2_with fail
      refine (dup_f w.heap.size _ _ _ hg1 H1.out.1.dns (HF.out.like H1.out.2.2.1).dns).mono ?_
      rintro e y1 ⟨A1, m1, c1, l1, rfl, hs1, hm1, hx1⟩
      obtain ⟨b1, f1, J1⟩ : ∃ a e, Hid (EngOK y1 w.heap.size a e ∧ Ext w y1 ∧ Like a0 a ∧ a.ip = a0.ip ∧ a.nip = a0.nip ∧ SameT a0.dns l1 ∧ StrF y1 w.heap.size (.slice A1 m1 c1) l1) := ⟨_, _, H1.out.1.ext hx1, H1.out.2.1.tr hx1, H1.out.2.2.1, H1.out.2.2.2.1, H1.out.2.2.2.2, (H1.out.2.2.1.then_dns hm1), hs1⟩
      clear H1 hx1 hm1 hs1 hg1 hv1 hw1 hy1
      have hg2 : w.heap.size < (y1.setCell ⟨w.heap.size, 4, none⟩ (.slice A1 m1 c1)).heap.size := by rw [World.size_setCell]; exact J1.out.1.blk.lt
      have hv2 : y1.cell? ⟨w.heap.size, 4, none⟩ = some f1.dns := J1.out.1.blk.cell 4
      have hw2 : y1.frozen? ⟨w.heap.size, 4, none⟩ = false := J1.out.1.blk.frozen 4
      have H2 : Hid (EngOK (y1.setCell ⟨w.heap.size, 4, none⟩ (.slice A1 m1 c1)) w.heap.size { b1 with dns := l1 } { f1 with dns := .slice A1 m1 c1 } ∧ Ext w (y1.setCell ⟨w.heap.size, 4, none⟩ (.slice A1 m1 c1)) ∧ Like a0 { b1 with dns := l1 } ∧ b1.ip = a0.ip ∧ b1.nip = a0.nip) := ⟨J1.out.1.set_dns _ _ J1.out.2.2.2.2.2.2, Below.setCell J1.out.2.1 (Nat.le_refl _) _, J1.out.2.2.1.set_dns _ J1.out.2.2.2.2.2.1, J1.out.2.2.2.1, J1.out.2.2.2.2.1⟩
      have hy2 : y1.cell? ⟨w.heap.size, 6, none⟩ = some f1.ip := J1.out.1.blk.cell 6
      clear J1
      go_wp2_with fail
      refine (HD.out w.heap.size _ _ _ H2.out.2.1 hg2 (by first | exact Or.inl rfl | exact Or.inr rfl) (show NetF _ _ _ a0.ip from by have := H2.out.2.2.2; first | (rw [← this.1]; exact H2.out.1.ip) | (rw [← this]; exact H2.out.1.ip))).mono ?_
      rintro e y2 ⟨A2, m2, c2, l2, rfl, hs2, hm2, hx2⟩
      obtain ⟨b2, f2, J2⟩ : ∃ a e, Hid (EngOK y2 w.heap.size a e ∧ Ext w y2 ∧ Like a0 a ∧ a.ip = a0.ip ∧ a.nip = a0.nip ∧ SameN a0.ip l2 ∧ NetF y2 w.heap.size (.slice A2 m2 c2) l2) := ⟨_, _, H2.out.1.ext hx2, H2.out.2.1.tr hx2, H2.out.2.2.1, H2.out.2.2.2.1, H2.out.2.2.2.2, hm2, hs2⟩
      clear H2 hx2 hm2 hs2 hg2 hv2 hw2 hy2
      have hg3 : w.heap.size < (y2.setCell ⟨w.heap.size, 6, none⟩ (.slice A2 m2 c2)).heap.size := by rw [World.size_setCell]; exact J2.out.1.blk.lt
      have hv3 : y2.cell? ⟨w.heap.size, 6, none⟩ = some f2.ip := J2.out.1.blk.cell 6
      have hw3 : y2.frozen? ⟨w.heap.size, 6, none⟩ = false := J2.out.1.blk.frozen 6
      have H3 : Hid (EngOK (y2.setCell ⟨w.heap.size, 6, none⟩ (.slice A2 m2 c2)) w.heap.size { b2 with ip := l2 } { f2 with ip := .slice A2 m2 c2 } ∧ Ext w (y2.setCell ⟨w.heap.size, 6, none⟩ (.slice A2 m2 c2)) ∧ Like a0 { b2 with ip := l2 } ∧ b2.nip = a0.nip) := ⟨J2.out.1.set_ip _ _ J2.out.2.2.2.2.2.2, Below.setCell J2.out.2.1 (Nat.le_refl _) _, J2.out.2.2.1.set_ip _ J2.out.2.2.2.2.2.1, J2.out.2.2.2.2.1⟩
      have hy3 : y2.cell? ⟨w.heap.size, 8, none⟩ = some f2.em := J2.out.1.blk.cell 8
      clear J2
      go_wp2_with fail
      refine (dup_f w.heap.size _ _ _ hg3 H3.out.1.em (HF.out.like H3.out.2.2.1).em).mono ?_
      rintro e y3 ⟨A3, m3, c3, l3, rfl, hs3, hm3, hx3⟩
      obtain ⟨b3, f3, J3⟩ : ∃ a e, Hid (EngOK y3 w.heap.size a e ∧ Ext w y3 ∧ Like a0 a ∧ a.nip = a0.nip ∧ SameT a0.em l3 ∧ StrF y3 w.heap.size (.slice A3 m3 c3) l3) := ⟨_, _, H3.out.1.ext hx3, H3.out.2.1.tr hx3, H3.out.2.2.1, H3.out.2.2.2, (H3.out.2.2.1.then_em hm3), hs3⟩
      clear H3 hx3 hm3 hs3 hg3 hv3 hw3 hy3
      have hg4 : w.heap.size < (y3.setCell ⟨w.heap.size, 8, none⟩ (.slice A3 m3 c3)).heap.size := by rw [World.size_setCell]; exact J3.out.1.blk.lt
      have hv4 : y3.cell? ⟨w.heap.size, 8, none⟩ = some f3.em := J3.out.1.blk.cell 8
      have hw4 : y3.frozen? ⟨w.heap.size, 8, none⟩ = false := J3.out.1.blk.frozen 8
      have H4 : Hid (EngOK (y3.setCell ⟨w.heap.size, 8, none⟩ (.slice A3 m3 c3)) w.heap.size { b3 with em := l3 } { f3 with em := .slice A3 m3 c3 } ∧ Ext w (y3.setCell ⟨w.heap.size, 8, none⟩ (.slice A3 m3 c3)) ∧ Like a0 { b3 with em := l3 } ∧ b3.nip = a0.nip) := ⟨J3.out.1.set_em _ _ J3.out.2.2.2.2.2, Below.setCell J3.out.2.1 (Nat.le_refl _) _, J3.out.2.2.1.set_em _ J3.out.2.2.2.2.1, J3.out.2.2.2.1⟩
      have hy4 : y3.cell? ⟨w.heap.size, 10, none⟩ = some f3.uri := J3.out.1.blk.cell 10
      clear J3
      go_wp2_with fail
      refine (dup_f w.heap.size _ _ _ hg4 H4.out.1.uri (HF.out.like H4.out.2.2.1).uri).mono ?_
      rintro e y4 ⟨A4, m4, c4, l4, rfl, hs4, hm4, hx4⟩
      obtain ⟨b4, f4, J4⟩ : ∃ a e, Hid (EngOK y4 w.heap.size a e ∧ Ext w y4 ∧ Like a0 a ∧ a.nip = a0.nip ∧ SameT a0.uri l4 ∧ StrF y4 w.heap.size (.slice A4 m4 c4) l4) := ⟨_, _, H4.out.1.ext hx4, H4.out.2.1.tr hx4, H4.out.2.2.1, H4.out.2.2.2, (H4.out.2.2.1.then_uri hm4), hs4⟩
      clear H4 hx4 hm4 hs4 hg4 hv4 hw4 hy4
      have hg5 : w.heap.size < (y4.setCell ⟨w.heap.size, 10, none⟩ (.slice A4 m4 c4)).heap.size := by rw [World.size_setCell]; exact J4.out.1.blk.lt
      have hv5 : y4.cell? ⟨w.heap.size, 10, none⟩ = some f4.uri := J4.out.1.blk.cell 10
      have hw5 : y4.frozen? ⟨w.heap.size, 10, none⟩ = false := J4.out.1.blk.frozen 10
      have H5 : Hid (EngOK (y4.setCell ⟨w.heap.size, 10, none⟩ (.slice A4 m4 c4)) w.heap.size { b4 with uri := l4 } { f4 with uri := .slice A4 m4 c4 } ∧ Ext w (y4.setCell ⟨w.heap.size, 10, none⟩ (.slice A4 m4 c4)) ∧ Like a0 { b4 with uri := l4 } ∧ b4.nip = a0.nip) := ⟨J4.out.1.set_uri _ _ J4.out.2.2.2.2.2, Below.setCell J4.out.2.1 (Nat.le_refl _) _, J4.out.2.2.1.set_uri _ J4.out.2.2.2.2.1, J4.out.2.2.2.1⟩
      have hy5 : y4.cell? ⟨w.heap.size, 12, none⟩ = some f4.pr := J4.out.1.blk.cell 12
      clear J4
      go_wp2_with fail
      refine (dup_f w.heap.size _ _ _ hg5 H5.out.1.pr (HF.out.like H5.out.2.2.1).pr).mono ?_
      rintro e y5 ⟨A5, m5, c5, l5, rfl, hs5, hm5, hx5⟩
      obtain ⟨b5, f5, J5⟩ : ∃ a e, Hid (EngOK y5 w.heap.size a e ∧ Ext w y5 ∧ Like a0 a ∧ a.nip = a0.nip ∧ SameT a0.pr l5 ∧ StrF y5 w.heap.size (.slice A5 m5 c5) l5) := ⟨_, _, H5.out.1.ext hx5, H5.out.2.1.tr hx5, H5.out.2.2.1, H5.out.2.2.2, (H5.out.2.2.1.then_pr hm5), hs5⟩
      clear H5 hx5 hm5 hs5 hg5 hv5 hw5 hy5
      have hg6 : w.heap.size < (y5.setCell ⟨w.heap.size, 12, none⟩ (.slice A5 m5 c5)).heap.size := by rw [World.size_setCell]; exact J5.out.1.blk.lt
      have hv6 : y5.cell? ⟨w.heap.size, 12, none⟩ = some f5.pr := J5.out.1.blk.cell 12
      have hw6 : y5.frozen? ⟨w.heap.size, 12, none⟩ = false := J5.out.1.blk.frozen 12
      have H6 : Hid (EngOK (y5.setCell ⟨w.heap.size, 12, none⟩ (.slice A5 m5 c5)) w.heap.size { b5 with pr := l5 } { f5 with pr := .slice A5 m5 c5 } ∧ Ext w (y5.setCell ⟨w.heap.size, 12, none⟩ (.slice A5 m5 c5)) ∧ Like a0 { b5 with pr := l5 } ∧ b5.nip = a0.nip) := ⟨J5.out.1.set_pr _ _ J5.out.2.2.2.2.2, Below.setCell J5.out.2.1 (Nat.le_refl _) _, J5.out.2.2.1.set_pr _ J5.out.2.2.2.2.1, J5.out.2.2.2.1⟩
      have hy6 : y5.cell? ⟨w.heap.size, 3, none⟩ = some f5.ncn := J5.out.1.blk.cell 3
      clear J5
      go_wp2_with fail
      refine (dup_f w.heap.size _ _ _ hg6 H6.out.1.ncn (HF.out.like H6.out.2.2.1).ncn).mono ?_
      rintro e y6 ⟨A6, m6, c6, l6, rfl, hs6, hm6, hx6⟩
      obtain ⟨b6, f6, J6⟩ : ∃ a e, Hid (EngOK y6 w.heap.size a e ∧ Ext w y6 ∧ Like a0 a ∧ a.nip = a0.nip ∧ SameT a0.ncn l6 ∧ StrF y6 w.heap.size (.slice A6 m6 c6) l6) := ⟨_, _, H6.out.1.ext hx6, H6.out.2.1.tr hx6, H6.out.2.2.1, H6.out.2.2.2, (H6.out.2.2.1.then_ncn hm6), hs6⟩
      clear H6 hx6 hm6 hs6 hg6 hv6 hw6 hy6
      have hg7 : w.heap.size < (y6.setCell ⟨w.heap.size, 3, none⟩ (.slice A6 m6 c6)).heap.size := by rw [World.size_setCell]; exact J6.out.1.blk.lt
      have hv7 : y6.cell? ⟨w.heap.size, 3, none⟩ = some f6.ncn := J6.out.1.blk.cell 3
      have hw7 : y6.frozen? ⟨w.heap.size, 3, none⟩ = false := J6.out.1.blk.frozen 3
      have H7 : Hid (EngOK (y6.setCell ⟨w.heap.size, 3, none⟩ (.slice A6 m6 c6)) w.heap.size { b6 with ncn := l6 } { f6 with ncn := .slice A6 m6 c6 } ∧ Ext w (y6.setCell ⟨w.heap.size, 3, none⟩ (.slice A6 m6 c6)) ∧ Like a0 { b6 with ncn := l6 } ∧ b6.nip = a0.nip) := ⟨J6.out.1.set_ncn _ _ J6.out.2.2.2.2.2, Below.setCell J6.out.2.1 (Nat.le_refl _) _, J6.out.2.2.1.set_ncn _ J6.out.2.2.2.2.1, J6.out.2.2.2.1⟩
      have hy7 : y6.cell? ⟨w.heap.size, 5, none⟩ = some f6.ndns := J6.out.1.blk.cell 5
      clear J6
      go_wp2_with fail
      refine (dup_f w.heap.size _ _ _ hg7 H7.out.1.ndns (HF.out.like H7.out.2.2.1).ndns).mono ?_
      rintro e y7 ⟨A7, m7, c7, l7, rfl, hs7, hm7, hx7⟩
      obtain ⟨b7, f7, J7⟩ : ∃ a e, Hid (EngOK y7 w.heap.size a e ∧ Ext w y7 ∧ Like a0 a ∧ a.nip = a0.nip ∧ SameT a0.ndns l7 ∧ StrF y7 w.heap.size (.slice A7 m7 c7) l7) := ⟨_, _, H7.out.1.ext hx7, H7.out.2.1.tr hx7, H7.out.2.2.1, H7.out.2.2.2, (H7.out.2.2.1.then_ndns hm7), hs7⟩
      clear H7 hx7 hm7 hs7 hg7 hv7 hw7 hy7
      have hg8 : w.heap.size < (y7.setCell ⟨w.heap.size, 5, none⟩ (.slice A7 m7 c7)).heap.size := by rw [World.size_setCell]; exact J7.out.1.blk.lt
      have hv8 : y7.cell? ⟨w.heap.size, 5, none⟩ = some f7.ndns := J7.out.1.blk.cell 5
      have hw8 : y7.frozen? ⟨w.heap.size, 5, none⟩ = false := J7.out.1.blk.frozen 5
      have H8 : Hid (EngOK (y7.setCell ⟨w.heap.size, 5, none⟩ (.slice A7 m7 c7)) w.heap.size { b7 with ndns := l7 } { f7 with ndns := .slice A7 m7 c7 } ∧ Ext w (y7.setCell ⟨w.heap.size, 5, none⟩ (.slice A7 m7 c7)) ∧ Like a0 { b7 with ndns := l7 } ∧ b7.nip = a0.nip) := ⟨J7.out.1.set_ndns _ _ J7.out.2.2.2.2.2, Below.setCell J7.out.2.1 (Nat.le_refl _) _, J7.out.2.2.1.set_ndns _ J7.out.2.2.2.2.1, J7.out.2.2.2.1⟩
      have hy8 : y7.cell? ⟨w.heap.size, 7, none⟩ = some f7.nip := J7.out.1.blk.cell 7
      clear J7
      go_wp2_with fail
      refine (HD.out w.heap.size _ _ _ H8.out.2.1 hg8 (by first | exact Or.inl rfl | exact Or.inr rfl) (show NetF _ _ _ a0.nip from by have := H8.out.2.2.2; first | (rw [← this.1]; exact H8.out.1.nip) | (rw [← this]; exact H8.out.1.nip))).mono ?_
      rintro e y8 ⟨A8, m8, c8, l8, rfl, hs8, hm8, hx8⟩
      obtain ⟨b8, f8, J8⟩ : ∃ a e, Hid (EngOK y8 w.heap.size a e ∧ Ext w y8 ∧ Like a0 a ∧ a.nip = a0.nip ∧ SameN a0.nip l8 ∧ NetF y8 w.heap.size (.slice A8 m8 c8) l8) := ⟨_, _, H8.out.1.ext hx8, H8.out.2.1.tr hx8, H8.out.2.2.1, H8.out.2.2.2, hm8, hs8⟩
      clear H8 hx8 hm8 hs8 hg8 hv8 hw8 hy8
      have hg9 : w.heap.size < (y8.setCell ⟨w.heap.size, 7, none⟩ (.slice A8 m8 c8)).heap.size := by rw [World.size_setCell]; exact J8.out.1.blk.lt
      have hv9 : y8.cell? ⟨w.heap.size, 7, none⟩ = some f8.nip := J8.out.1.blk.cell 7
      have hw9 : y8.frozen? ⟨w.heap.size, 7, none⟩ = false := J8.out.1.blk.frozen 7
      have H9 : Hid (EngOK (y8.setCell ⟨w.heap.size, 7, none⟩ (.slice A8 m8 c8)) w.heap.size { b8 with nip := l8 } { f8 with nip := .slice A8 m8 c8 } ∧ Ext w (y8.setCell ⟨w.heap.size, 7, none⟩ (.slice A8 m8 c8)) ∧ Like a0 { b8 with nip := l8 }) := ⟨J8.out.1.set_nip _ _ J8.out.2.2.2.2.2, Below.setCell J8.out.2.1 (Nat.le_refl _) _, J8.out.2.2.1.set_nip _ J8.out.2.2.2.2.1⟩
      have hy9 : y8.cell? ⟨w.heap.size, 9, none⟩ = some f8.nem := J8.out.1.blk.cell 9
      clear J8
      go_wp2_with fail
      refine (dup_f w.heap.size _ _ _ hg9 H9.out.1.nem (HF.out.like H9.out.2.2).nem).mono ?_
      rintro e y9 ⟨A9, m9, c9, l9, rfl, hs9, hm9, hx9⟩
      obtain ⟨b9, f9, J9⟩ : ∃ a e, Hid (EngOK y9 w.heap.size a e ∧ Ext w y9 ∧ Like a0 a ∧ SameT a0.nem l9 ∧ StrF y9 w.heap.size (.slice A9 m9 c9) l9) := ⟨_, _, H9.out.1.ext hx9, H9.out.2.1.tr hx9, H9.out.2.2, (H9.out.2.2.then_nem hm9), hs9⟩
      clear H9 hx9 hm9 hs9 hg9 hv9 hw9 hy9
      have hg10 : w.heap.size < (y9.setCell ⟨w.heap.size, 9, none⟩ (.slice A9 m9 c9)).heap.size := by rw [World.size_setCell]; exact J9.out.1.blk.lt
      have hv10 : y9.cell? ⟨w.heap.size, 9, none⟩ = some f9.nem := J9.out.1.blk.cell 9
      have hw10 : y9.frozen? ⟨w.heap.size, 9, none⟩ = false := J9.out.1.blk.frozen 9
      have H10 : Hid (EngOK (y9.setCell ⟨w.heap.size, 9, none⟩ (.slice A9 m9 c9)) w.heap.size { b9 with nem := l9 } { f9 with nem := .slice A9 m9 c9 } ∧ Ext w (y9.setCell ⟨w.heap.size, 9, none⟩ (.slice A9 m9 c9)) ∧ Like a0 { b9 with nem := l9 }) := ⟨J9.out.1.set_nem _ _ J9.out.2.2.2.2, Below.setCell J9.out.2.1 (Nat.le_refl _) _, J9.out.2.2.1.set_nem _ J9.out.2.2.2.1⟩
      have hy10 : y9.cell? ⟨w.heap.size, 11, none⟩ = some f9.nuri := J9.out.1.blk.cell 11
      clear J9
      go_wp2_with fail
      refine (dup_f w.heap.size _ _ _ hg10 H10.out.1.nuri (HF.out.like H10.out.2.2).nuri).mono ?_
      rintro e y10 ⟨A10, m10, c10, l10, rfl, hs10, hm10, hx10⟩
      obtain ⟨b10, f10, J10⟩ : ∃ a e, Hid (EngOK y10 w.heap.size a e ∧ Ext w y10 ∧ Like a0 a ∧ SameT a0.nuri l10 ∧ StrF y10 w.heap.size (.slice A10 m10 c10) l10) := ⟨_, _, H10.out.1.ext hx10, H10.out.2.1.tr hx10, H10.out.2.2, (H10.out.2.2.then_nuri hm10), hs10⟩
      clear H10 hx10 hm10 hs10 hg10 hv10 hw10 hy10
      have hg11 : w.heap.size < (y10.setCell ⟨w.heap.size, 11, none⟩ (.slice A10 m10 c10)).heap.size := by rw [World.size_setCell]; exact J10.out.1.blk.lt
      have hv11 : y10.cell? ⟨w.heap.size, 11, none⟩ = some f10.nuri := J10.out.1.blk.cell 11
      have hw11 : y10.frozen? ⟨w.heap.size, 11, none⟩ = false := J10.out.1.blk.frozen 11
      have H11 : Hid (EngOK (y10.setCell ⟨w.heap.size, 11, none⟩ (.slice A10 m10 c10)) w.heap.size { b10 with nuri := l10 } { f10 with nuri := .slice A10 m10 c10 } ∧ Ext w (y10.setCell ⟨w.heap.size, 11, none⟩ (.slice A10 m10 c10)) ∧ Like a0 { b10 with nuri := l10 }) := ⟨J10.out.1.set_nuri _ _ J10.out.2.2.2.2, Below.setCell J10.out.2.1 (Nat.le_refl _) _, J10.out.2.2.1.set_nuri _ J10.out.2.2.2.1⟩
      have hy11 : y10.cell? ⟨w.heap.size, 13, none⟩ = some f10.npr := J10.out.1.blk.cell 13
      clear J10
      go_wp2_with fail
      refine (dup_f w.heap.size _ _ _ hg11 H11.out.1.npr (HF.out.like H11.out.2.2).npr).mono ?_
      rintro e y11 ⟨A11, m11, c11, l11, rfl, hs11, hm11, hx11⟩
      obtain ⟨b11, f11, J11⟩ : ∃ a e, Hid (EngOK y11 w.heap.size a e ∧ Ext w y11 ∧ Like a0 a ∧ SameT a0.npr l11 ∧ StrF y11 w.heap.size (.slice A11 m11 c11) l11) := ⟨_, _, H11.out.1.ext hx11, H11.out.2.1.tr hx11, H11.out.2.2, (H11.out.2.2.then_npr hm11), hs11⟩
      clear H11 hx11 hm11 hs11 hg11 hv11 hw11 hy11
      have hg12 : w.heap.size < (y11.setCell ⟨w.heap.size, 13, none⟩ (.slice A11 m11 c11)).heap.size := by rw [World.size_setCell]; exact J11.out.1.blk.lt
      have hv12 : y11.cell? ⟨w.heap.size, 13, none⟩ = some f11.npr := J11.out.1.blk.cell 13
      have hw12 : y11.frozen? ⟨w.heap.size, 13, none⟩ = false := J11.out.1.blk.frozen 13
      have H12 : Hid (EngOK (y11.setCell ⟨w.heap.size, 13, none⟩ (.slice A11 m11 c11)) w.heap.size { b11 with npr := l11 } { f11 with npr := .slice A11 m11 c11 } ∧ Ext w (y11.setCell ⟨w.heap.size, 13, none⟩ (.slice A11 m11 c11)) ∧ Like a0 { b11 with npr := l11 }) := ⟨J11.out.1.set_npr _ _ J11.out.2.2.2.2, Below.setCell J11.out.2.1 (Nat.le_refl _) _, J11.out.2.2.1.set_npr _ J11.out.2.2.2.1⟩
      clear J11
      go_wp2
      generalize (y11.setCell ⟨w.heap.size, 13, none⟩ (.slice A11 m11 c11)) = z0 at H12 ⊢
      clear hv12 hw12 hg12
      obtain ⟨a, f, Z0⟩ : ∃ a e, Hid (EngOK z0 w.heap.size a e ∧ Ext w z0 ∧ Like a0 a) := ⟨_, _, H12.out⟩
      clear H12
      have hfw := HF.out.like Z0.out.2.2
      obtain ⟨A_cn, p_cn, c_cn, E_cn, P_cn⟩ := Z0.out.1.cn.form
      have B_cn : p_cn ≤ 1000 := by rw [P_cn]; exact hfw.cn
      have Q_cn := Lib.hid P_cn; clear P_cn
      obtain ⟨A_ncn, p_ncn, c_ncn, E_ncn, P_ncn⟩ := Z0.out.1.ncn.form
      have B_ncn : p_ncn ≤ 1000 := by rw [P_ncn]; exact hfw.ncn
      have Q_ncn := Lib.hid P_ncn; clear P_ncn
      obtain ⟨A_dns, p_dns, c_dns, E_dns, P_dns⟩ := Z0.out.1.dns.form
      have B_dns : p_dns ≤ 1000 := by rw [P_dns]; exact hfw.dns
      have Q_dns := Lib.hid P_dns; clear P_dns
      obtain ⟨A_ndns, p_ndns, c_ndns, E_ndns, P_ndns⟩ := Z0.out.1.ndns.form
      have B_ndns : p_ndns ≤ 1000 := by rw [P_ndns]; exact hfw.ndns
      have Q_ndns := Lib.hid P_ndns; clear P_ndns
      obtain ⟨A_ip, p_ip, c_ip, E_ip, P_ip⟩ := Z0.out.1.ip.form
      have B_ip : p_ip ≤ 1000 := by rw [P_ip]; exact hfw.ip
      have Q_ip := Lib.hid P_ip; clear P_ip
      obtain ⟨A_nip, p_nip, c_nip, E_nip, P_nip⟩ := Z0.out.1.nip.form
      have B_nip : p_nip ≤ 1000 := by rw [P_nip]; exact hfw.nip
      have Q_nip := Lib.hid P_nip; clear P_nip
      obtain ⟨A_em, p_em, c_em, E_em, P_em⟩ := Z0.out.1.em.form
      have B_em : p_em ≤ 1000 := by rw [P_em]; exact hfw.em
      have Q_em := Lib.hid P_em; clear P_em
      obtain ⟨A_nem, p_nem, c_nem, E_nem, P_nem⟩ := Z0.out.1.nem.form
      have B_nem : p_nem ≤ 1000 := by rw [P_nem]; exact hfw.nem
      have Q_nem := Lib.hid P_nem; clear P_nem
      obtain ⟨A_uri, p_uri, c_uri, E_uri, P_uri⟩ := Z0.out.1.uri.form
      have B_uri : p_uri ≤ 1000 := by rw [P_uri]; exact hfw.uri
      have Q_uri := Lib.hid P_uri; clear P_uri
      obtain ⟨A_nuri, p_nuri, c_nuri, E_nuri, P_nuri⟩ := Z0.out.1.nuri.form
      have B_nuri : p_nuri ≤ 1000 := by rw [P_nuri]; exact hfw.nuri
      have Q_nuri := Lib.hid P_nuri; clear P_nuri
      obtain ⟨A_pr, p_pr, c_pr, E_pr, P_pr⟩ := Z0.out.1.pr.form
      have B_pr : p_pr ≤ 1000 := by rw [P_pr]; exact hfw.pr
      have Q_pr := Lib.hid P_pr; clear P_pr
      obtain ⟨A_npr, p_npr, c_npr, E_npr, P_npr⟩ := Z0.out.1.npr.form
      have B_npr : p_npr ≤ 1000 := by rw [P_npr]; exact hfw.npr
      have Q_npr := Lib.hid P_npr; clear P_npr
      clear hfw
      have c0_cn : z0.cell? ⟨w.heap.size, 2, none⟩ = some (.slice A_cn p_cn c_cn) := by rw [← E_cn]; exact Z0.out.1.blk.cell 2
      have c0_ncn : z0.cell? ⟨w.heap.size, 3, none⟩ = some (.slice A_ncn p_ncn c_ncn) := by rw [← E_ncn]; exact Z0.out.1.blk.cell 3
      have c0_t : z0.cell? ⟨w.heap.size, 14, none⟩ = some (.int .i64 f.k1) := Z0.out.1.blk.cell 14
      have f0_t : z0.frozen? ⟨w.heap.size, 14, none⟩ = false := Z0.out.1.blk.frozen 14
      have w0_0 : IntKind.i64.wrap (((p_cn : Nat) : Int) + (p_ncn : Int)) = ((p_cn : Nat) : Int) + (p_ncn : Int) := IntWalk.i64_in _ (by omega)
      go_still_tail 14, (by kernel_rfl)
      have cw0 : z0.drew.cell? ⟨w.heap.size, 14, none⟩ = some (.int .i64 f.k1) := c0_t
      have fw0 : z0.drew.frozen? ⟨w.heap.size, 14, none⟩ = false := f0_t
      clear c0_cn c0_ncn c0_t f0_t
      have Y0 : Hid (EngOK z0.drew w.heap.size a f ∧ Ext w z0.drew ∧ Like a0 a) := ⟨Z0.out.1.drew, Z0.out.2.1.drew, Z0.out.2.2⟩
      change wpList _ _ _ _ _ z0.drew
      generalize z0.drew = q0 at Y0 cw0 fw0 ⊢
      have Z1 : Hid (EngOK (q0.setCell ⟨w.heap.size, 14, none⟩ (.int .i64 (((p_cn : Nat) : Int) + (p_ncn : Int)))) w.heap.size a { f with k1 := ((p_cn : Nat) : Int) + (p_ncn : Int) } ∧ Ext w (q0.setCell ⟨w.heap.size, 14, none⟩ (.int .i64 (((p_cn : Nat) : Int) + (p_ncn : Int)))) ∧ Like a0 a) := ⟨Y0.out.1.set_k1 _, Below.setCell Y0.out.2.1 (Nat.le_refl _) _, Y0.out.2.2⟩
      go_wp2
      generalize q0.setCell ⟨w.heap.size, 14, none⟩ (.int .i64 (((p_cn : Nat) : Int) + (p_ncn : Int))) = z1 at Z1 ⊢
      clear Y0 Z0 cw0 fw0 w0_0
      have c1_dns : z1.cell? ⟨w.heap.size, 4, none⟩ = some (.slice A_dns p_dns c_dns) := by rw [← E_dns]; exact Z1.out.1.blk.cell 4
      have c1_ndns : z1.cell? ⟨w.heap.size, 5, none⟩ = some (.slice A_ndns p_ndns c_ndns) := by rw [← E_ndns]; exact Z1.out.1.blk.cell 5
      have c1_t : z1.cell? ⟨w.heap.size, 15, none⟩ = some (.int .i64 f.k2) := Z1.out.1.blk.cell 15
      have f1_t : z1.frozen? ⟨w.heap.size, 15, none⟩ = false := Z1.out.1.blk.frozen 15
      have w1_0 : IntKind.i64.wrap (((p_dns : Nat) : Int) + (p_ndns : Int)) = ((p_dns : Nat) : Int) + (p_ndns : Int) := IntWalk.i64_in _ (by omega)
      go_still_tail 14, (by kernel_rfl)
      have cw1 : z1.drew.cell? ⟨w.heap.size, 15, none⟩ = some (.int .i64 f.k2) := c1_t
      have fw1 : z1.drew.frozen? ⟨w.heap.size, 15, none⟩ = false := f1_t
      clear c1_dns c1_ndns c1_t f1_t
      have Y1 : Hid (EngOK z1.drew w.heap.size a { f with k1 := ((p_cn : Nat) : Int) + (p_ncn : Int) } ∧ Ext w z1.drew ∧ Like a0 a) := ⟨Z1.out.1.drew, Z1.out.2.1.drew, Z1.out.2.2⟩
      change wpList _ _ _ _ _ z1.drew
      generalize z1.drew = q1 at Y1 cw1 fw1 ⊢
      have Z2 : Hid (EngOK (q1.setCell ⟨w.heap.size, 15, none⟩ (.int .i64 (((p_dns : Nat) : Int) + (p_ndns : Int)))) w.heap.size a { f with k1 := ((p_cn : Nat) : Int) + (p_ncn : Int), k2 := ((p_dns : Nat) : Int) + (p_ndns : Int) } ∧ Ext w (q1.setCell ⟨w.heap.size, 15, none⟩ (.int .i64 (((p_dns : Nat) : Int) + (p_ndns : Int)))) ∧ Like a0 a) := ⟨Y1.out.1.set_k2 _, Below.setCell Y1.out.2.1 (Nat.le_refl _) _, Y1.out.2.2⟩
      go_wp2
      generalize q1.setCell ⟨w.heap.size, 15, none⟩ (.int .i64 (((p_dns : Nat) : Int) + (p_ndns : Int))) = z2 at Z2 ⊢
      clear Y1 Z1 cw1 fw1 w1_0
      have c2_ip : z2.cell? ⟨w.heap.size, 6, none⟩ = some (.slice A_ip p_ip c_ip) := by rw [← E_ip]; exact Z2.out.1.blk.cell 6
      have c2_nip : z2.cell? ⟨w.heap.size, 7, none⟩ = some (.slice A_nip p_nip c_nip) := by rw [← E_nip]; exact Z2.out.1.blk.cell 7
      have c2_t : z2.cell? ⟨w.heap.size, 16, none⟩ = some (.int .i64 f.k3) := Z2.out.1.blk.cell 16
      have f2_t : z2.frozen? ⟨w.heap.size, 16, none⟩ = false := Z2.out.1.blk.frozen 16
      have w2_0 : IntKind.i64.wrap (((p_ip : Nat) : Int) + (p_nip : Int)) = ((p_ip : Nat) : Int) + (p_nip : Int) := IntWalk.i64_in _ (by omega)
      go_still_tail 14, (by kernel_rfl)
      have cw2 : z2.drew.cell? ⟨w.heap.size, 16, none⟩ = some (.int .i64 f.k3) := c2_t
      have fw2 : z2.drew.frozen? ⟨w.heap.size, 16, none⟩ = false := f2_t
      clear c2_ip c2_nip c2_t f2_t
      have Y2 : Hid (EngOK z2.drew w.heap.size a { f with k1 := ((p_cn : Nat) : Int) + (p_ncn : Int), k2 := ((p_dns : Nat) : Int) + (p_ndns : Int) } ∧ Ext w z2.drew ∧ Like a0 a) := ⟨Z2.out.1.drew, Z2.out.2.1.drew, Z2.out.2.2⟩
      change wpList _ _ _ _ _ z2.drew
      generalize z2.drew = q2 at Y2 cw2 fw2 ⊢
      have Z3 : Hid (EngOK (q2.setCell ⟨w.heap.size, 16, none⟩ (.int .i64 (((p_ip : Nat) : Int) + (p_nip : Int)))) w.heap.size a { f with k1 := ((p_cn : Nat) : Int) + (p_ncn : Int), k2 := ((p_dns : Nat) : Int) + (p_ndns : Int), k3 := ((p_ip : Nat) : Int) + (p_nip : Int) } ∧ Ext w (q2.setCell ⟨w.heap.size, 16, none⟩ (.int .i64 (((p_ip : Nat) : Int) + (p_nip : Int)))) ∧ Like a0 a) := ⟨Y2.out.1.set_k3 _, Below.setCell Y2.out.2.1 (Nat.le_refl _) _, Y2.out.2.2⟩
      go_wp2
      generalize q2.setCell ⟨w.heap.size, 16, none⟩ (.int .i64 (((p_ip : Nat) : Int) + (p_nip : Int))) = z3 at Z3 ⊢
      clear Y2 Z2 cw2 fw2 w2_0
      have c3_em : z3.cell? ⟨w.heap.size, 8, none⟩ = some (.slice A_em p_em c_em) := by rw [← E_em]; exact Z3.out.1.blk.cell 8
      have c3_nem : z3.cell? ⟨w.heap.size, 9, none⟩ = some (.slice A_nem p_nem c_nem) := by rw [← E_nem]; exact Z3.out.1.blk.cell 9
      have c3_t : z3.cell? ⟨w.heap.size, 17, none⟩ = some (.int .i64 f.k4) := Z3.out.1.blk.cell 17
      have f3_t : z3.frozen? ⟨w.heap.size, 17, none⟩ = false := Z3.out.1.blk.frozen 17
      have w3_0 : IntKind.i64.wrap (((p_em : Nat) : Int) + (p_nem : Int)) = ((p_em : Nat) : Int) + (p_nem : Int) := IntWalk.i64_in _ (by omega)
      go_still_tail 14, (by kernel_rfl)
      have cw3 : z3.drew.cell? ⟨w.heap.size, 17, none⟩ = some (.int .i64 f.k4) := c3_t
      have fw3 : z3.drew.frozen? ⟨w.heap.size, 17, none⟩ = false := f3_t
      clear c3_em c3_nem c3_t f3_t
      have Y3 : Hid (EngOK z3.drew w.heap.size a { f with k1 := ((p_cn : Nat) : Int) + (p_ncn : Int), k2 := ((p_dns : Nat) : Int) + (p_ndns : Int), k3 := ((p_ip : Nat) : Int) + (p_nip : Int) } ∧ Ext w z3.drew ∧ Like a0 a) := ⟨Z3.out.1.drew, Z3.out.2.1.drew, Z3.out.2.2⟩
      change wpList _ _ _ _ _ z3.drew
      generalize z3.drew = q3 at Y3 cw3 fw3 ⊢
      have Z4 : Hid (EngOK (q3.setCell ⟨w.heap.size, 17, none⟩ (.int .i64 (((p_em : Nat) : Int) + (p_nem : Int)))) w.heap.size a { f with k1 := ((p_cn : Nat) : Int) + (p_ncn : Int), k2 := ((p_dns : Nat) : Int) + (p_ndns : Int), k3 := ((p_ip : Nat) : Int) + (p_nip : Int), k4 := ((p_em : Nat) : Int) + (p_nem : Int) } ∧ Ext w (q3.setCell ⟨w.heap.size, 17, none⟩ (.int .i64 (((p_em : Nat) : Int) + (p_nem : Int)))) ∧ Like a0 a) := ⟨Y3.out.1.set_k4 _, Below.setCell Y3.out.2.1 (Nat.le_refl _) _, Y3.out.2.2⟩
      go_wp2
      generalize q3.setCell ⟨w.heap.size, 17, none⟩ (.int .i64 (((p_em : Nat) : Int) + (p_nem : Int))) = z4 at Z4 ⊢
      clear Y3 Z3 cw3 fw3 w3_0
      have c4_uri : z4.cell? ⟨w.heap.size, 10, none⟩ = some (.slice A_uri p_uri c_uri) := by rw [← E_uri]; exact Z4.out.1.blk.cell 10
      have c4_nuri : z4.cell? ⟨w.heap.size, 11, none⟩ = some (.slice A_nuri p_nuri c_nuri) := by rw [← E_nuri]; exact Z4.out.1.blk.cell 11
      have c4_t : z4.cell? ⟨w.heap.size, 18, none⟩ = some (.int .i64 f.k5) := Z4.out.1.blk.cell 18
      have f4_t : z4.frozen? ⟨w.heap.size, 18, none⟩ = false := Z4.out.1.blk.frozen 18
      have w4_0 : IntKind.i64.wrap (((p_uri : Nat) : Int) + (p_nuri : Int)) = ((p_uri : Nat) : Int) + (p_nuri : Int) := IntWalk.i64_in _ (by omega)
      go_still_tail 14, (by kernel_rfl)
      have cw4 : z4.drew.cell? ⟨w.heap.size, 18, none⟩ = some (.int .i64 f.k5) := c4_t
      have fw4 : z4.drew.frozen? ⟨w.heap.size, 18, none⟩ = false := f4_t
      clear c4_uri c4_nuri c4_t f4_t
      have Y4 : Hid (EngOK z4.drew w.heap.size a { f with k1 := ((p_cn : Nat) : Int) + (p_ncn : Int), k2 := ((p_dns : Nat) : Int) + (p_ndns : Int), k3 := ((p_ip : Nat) : Int) + (p_nip : Int), k4 := ((p_em : Nat) : Int) + (p_nem : Int) } ∧ Ext w z4.drew ∧ Like a0 a) := ⟨Z4.out.1.drew, Z4.out.2.1.drew, Z4.out.2.2⟩
      change wpList _ _ _ _ _ z4.drew
      generalize z4.drew = q4 at Y4 cw4 fw4 ⊢
      have Z5 : Hid (EngOK (q4.setCell ⟨w.heap.size, 18, none⟩ (.int .i64 (((p_uri : Nat) : Int) + (p_nuri : Int)))) w.heap.size a { f with k1 := ((p_cn : Nat) : Int) + (p_ncn : Int), k2 := ((p_dns : Nat) : Int) + (p_ndns : Int), k3 := ((p_ip : Nat) : Int) + (p_nip : Int), k4 := ((p_em : Nat) : Int) + (p_nem : Int), k5 := ((p_uri : Nat) : Int) + (p_nuri : Int) } ∧ Ext w (q4.setCell ⟨w.heap.size, 18, none⟩ (.int .i64 (((p_uri : Nat) : Int) + (p_nuri : Int)))) ∧ Like a0 a) := ⟨Y4.out.1.set_k5 _, Below.setCell Y4.out.2.1 (Nat.le_refl _) _, Y4.out.2.2⟩
      go_wp2
      generalize q4.setCell ⟨w.heap.size, 18, none⟩ (.int .i64 (((p_uri : Nat) : Int) + (p_nuri : Int))) = z5 at Z5 ⊢
      clear Y4 Z4 cw4 fw4 w4_0
      have c5_pr : z5.cell? ⟨w.heap.size, 12, none⟩ = some (.slice A_pr p_pr c_pr) := by rw [← E_pr]; exact Z5.out.1.blk.cell 12
      have c5_npr : z5.cell? ⟨w.heap.size, 13, none⟩ = some (.slice A_npr p_npr c_npr) := by rw [← E_npr]; exact Z5.out.1.blk.cell 13
      have c5_t : z5.cell? ⟨w.heap.size, 19, none⟩ = some (.int .i64 f.k6) := Z5.out.1.blk.cell 19
      have f5_t : z5.frozen? ⟨w.heap.size, 19, none⟩ = false := Z5.out.1.blk.frozen 19
      have w5_0 : IntKind.i64.wrap (((p_pr : Nat) : Int) + (p_npr : Int)) = ((p_pr : Nat) : Int) + (p_npr : Int) := IntWalk.i64_in _ (by omega)
      go_still_tail 14, (by kernel_rfl)
      have cw5 : z5.drew.cell? ⟨w.heap.size, 19, none⟩ = some (.int .i64 f.k6) := c5_t
      have fw5 : z5.drew.frozen? ⟨w.heap.size, 19, none⟩ = false := f5_t
      clear c5_pr c5_npr c5_t f5_t
      have Y5 : Hid (EngOK z5.drew w.heap.size a { f with k1 := ((p_cn : Nat) : Int) + (p_ncn : Int), k2 := ((p_dns : Nat) : Int) + (p_ndns : Int), k3 := ((p_ip : Nat) : Int) + (p_nip : Int), k4 := ((p_em : Nat) : Int) + (p_nem : Int), k5 := ((p_uri : Nat) : Int) + (p_nuri : Int) } ∧ Ext w z5.drew ∧ Like a0 a) := ⟨Z5.out.1.drew, Z5.out.2.1.drew, Z5.out.2.2⟩
      change wpList _ _ _ _ _ z5.drew
      generalize z5.drew = q5 at Y5 cw5 fw5 ⊢
      have Z6 : Hid (EngOK (q5.setCell ⟨w.heap.size, 19, none⟩ (.int .i64 (((p_pr : Nat) : Int) + (p_npr : Int)))) w.heap.size a { f with k1 := ((p_cn : Nat) : Int) + (p_ncn : Int), k2 := ((p_dns : Nat) : Int) + (p_ndns : Int), k3 := ((p_ip : Nat) : Int) + (p_nip : Int), k4 := ((p_em : Nat) : Int) + (p_nem : Int), k5 := ((p_uri : Nat) : Int) + (p_nuri : Int), k6 := ((p_pr : Nat) : Int) + (p_npr : Int) } ∧ Ext w (q5.setCell ⟨w.heap.size, 19, none⟩ (.int .i64 (((p_pr : Nat) : Int) + (p_npr : Int)))) ∧ Like a0 a) := ⟨Y5.out.1.set_k6 _, Below.setCell Y5.out.2.1 (Nat.le_refl _) _, Y5.out.2.2⟩
      go_wp2
      generalize q5.setCell ⟨w.heap.size, 19, none⟩ (.int .i64 (((p_pr : Nat) : Int) + (p_npr : Int))) = z6 at Z6 ⊢
      clear Y5 Z5 cw5 fw5 w5_0
      have c6_cn : z6.cell? ⟨w.heap.size, 2, none⟩ = some (.slice A_cn p_cn c_cn) := by rw [← E_cn]; exact Z6.out.1.blk.cell 2
      have c6_dns : z6.cell? ⟨w.heap.size, 4, none⟩ = some (.slice A_dns p_dns c_dns) := by rw [← E_dns]; exact Z6.out.1.blk.cell 4
      have c6_ip : z6.cell? ⟨w.heap.size, 6, none⟩ = some (.slice A_ip p_ip c_ip) := by rw [← E_ip]; exact Z6.out.1.blk.cell 6
      have c6_em : z6.cell? ⟨w.heap.size, 8, none⟩ = some (.slice A_em p_em c_em) := by rw [← E_em]; exact Z6.out.1.blk.cell 8
      have c6_uri : z6.cell? ⟨w.heap.size, 10, none⟩ = some (.slice A_uri p_uri c_uri) := by rw [← E_uri]; exact Z6.out.1.blk.cell 10
      have c6_pr : z6.cell? ⟨w.heap.size, 12, none⟩ = some (.slice A_pr p_pr c_pr) := by rw [← E_pr]; exact Z6.out.1.blk.cell 12
      have c6_t : z6.cell? ⟨w.heap.size, 20, none⟩ = some (.int .i64 f.k7) := Z6.out.1.blk.cell 20
      have f6_t : z6.frozen? ⟨w.heap.size, 20, none⟩ = false := Z6.out.1.blk.frozen 20
      have w6_0 : IntKind.i64.wrap (((p_cn : Nat) : Int) + (p_dns : Int)) = ((p_cn : Nat) : Int) + (p_dns : Int) := IntWalk.i64_in _ (by omega)
      have w6_1 : IntKind.i64.wrap (((p_cn : Nat) : Int) + (p_dns : Int) + (p_ip : Int)) = ((p_cn : Nat) : Int) + (p_dns : Int) + (p_ip : Int) := IntWalk.i64_in _ (by omega)
      have w6_2 : IntKind.i64.wrap (((p_cn : Nat) : Int) + (p_dns : Int) + (p_ip : Int) + (p_em : Int)) = ((p_cn : Nat) : Int) + (p_dns : Int) + (p_ip : Int) + (p_em : Int) := IntWalk.i64_in _ (by omega)
      have w6_3 : IntKind.i64.wrap (((p_cn : Nat) : Int) + (p_dns : Int) + (p_ip : Int) + (p_em : Int) + (p_uri : Int)) = ((p_cn : Nat) : Int) + (p_dns : Int) + (p_ip : Int) + (p_em : Int) + (p_uri : Int) := IntWalk.i64_in _ (by omega)
      have w6_4 : IntKind.i64.wrap (((p_cn : Nat) : Int) + (p_dns : Int) + (p_ip : Int) + (p_em : Int) + (p_uri : Int) + (p_pr : Int)) = ((p_cn : Nat) : Int) + (p_dns : Int) + (p_ip : Int) + (p_em : Int) + (p_uri : Int) + (p_pr : Int) := IntWalk.i64_in _ (by omega)
      go_still_tail 38, (by kernel_rfl)
      have cw6 : z6.drew.cell? ⟨w.heap.size, 20, none⟩ = some (.int .i64 f.k7) := c6_t
      have fw6 : z6.drew.frozen? ⟨w.heap.size, 20, none⟩ = false := f6_t
      clear c6_cn c6_dns c6_ip c6_em c6_uri c6_pr c6_t f6_t
      have Y6 : Hid (EngOK z6.drew w.heap.size a { f with k1 := ((p_cn : Nat) : Int) + (p_ncn : Int), k2 := ((p_dns : Nat) : Int) + (p_ndns : Int), k3 := ((p_ip : Nat) : Int) + (p_nip : Int), k4 := ((p_em : Nat) : Int) + (p_nem : Int), k5 := ((p_uri : Nat) : Int) + (p_nuri : Int), k6 := ((p_pr : Nat) : Int) + (p_npr : Int) } ∧ Ext w z6.drew ∧ Like a0 a) := ⟨Z6.out.1.drew, Z6.out.2.1.drew, Z6.out.2.2⟩
      change wpList _ _ _ _ _ z6.drew
      generalize z6.drew = q6 at Y6 cw6 fw6 ⊢
      have Z7 : Hid (EngOK (q6.setCell ⟨w.heap.size, 20, none⟩ (.int .i64 (((p_cn : Nat) : Int) + (p_dns : Int) + (p_ip : Int) + (p_em : Int) + (p_uri : Int) + (p_pr : Int)))) w.heap.size a { f with k1 := ((p_cn : Nat) : Int) + (p_ncn : Int), k2 := ((p_dns : Nat) : Int) + (p_ndns : Int), k3 := ((p_ip : Nat) : Int) + (p_nip : Int), k4 := ((p_em : Nat) : Int) + (p_nem : Int), k5 := ((p_uri : Nat) : Int) + (p_nuri : Int), k6 := ((p_pr : Nat) : Int) + (p_npr : Int), k7 := ((p_cn : Nat) : Int) + (p_dns : Int) + (p_ip : Int) + (p_em : Int) + (p_uri : Int) + (p_pr : Int) } ∧ Ext w (q6.setCell ⟨w.heap.size, 20, none⟩ (.int .i64 (((p_cn : Nat) : Int) + (p_dns : Int) + (p_ip : Int) + (p_em : Int) + (p_uri : Int) + (p_pr : Int)))) ∧ Like a0 a) := ⟨Y6.out.1.set_k7 _, Below.setCell Y6.out.2.1 (Nat.le_refl _) _, Y6.out.2.2⟩
      go_wp2
      generalize q6.setCell ⟨w.heap.size, 20, none⟩ (.int .i64 (((p_cn : Nat) : Int) + (p_dns : Int) + (p_ip : Int) + (p_em : Int) + (p_uri : Int) + (p_pr : Int))) = z7 at Z7 ⊢
      clear Y6 Z6 cw6 fw6 w6_0 w6_1 w6_2 w6_3 w6_4
      have c7_ncn : z7.cell? ⟨w.heap.size, 3, none⟩ = some (.slice A_ncn p_ncn c_ncn) := by rw [← E_ncn]; exact Z7.out.1.blk.cell 3
      have c7_ndns : z7.cell? ⟨w.heap.size, 5, none⟩ = some (.slice A_ndns p_ndns c_ndns) := by rw [← E_ndns]; exact Z7.out.1.blk.cell 5
      have c7_nip : z7.cell? ⟨w.heap.size, 7, none⟩ = some (.slice A_nip p_nip c_nip) := by rw [← E_nip]; exact Z7.out.1.blk.cell 7
      have c7_nem : z7.cell? ⟨w.heap.size, 9, none⟩ = some (.slice A_nem p_nem c_nem) := by rw [← E_nem]; exact Z7.out.1.blk.cell 9
      have c7_nuri : z7.cell? ⟨w.heap.size, 11, none⟩ = some (.slice A_nuri p_nuri c_nuri) := by rw [← E_nuri]; exact Z7.out.1.blk.cell 11
      have c7_npr : z7.cell? ⟨w.heap.size, 13, none⟩ = some (.slice A_npr p_npr c_npr) := by rw [← E_npr]; exact Z7.out.1.blk.cell 13
      have c7_t : z7.cell? ⟨w.heap.size, 21, none⟩ = some (.int .i64 f.k8) := Z7.out.1.blk.cell 21
      have f7_t : z7.frozen? ⟨w.heap.size, 21, none⟩ = false := Z7.out.1.blk.frozen 21
      have w7_0 : IntKind.i64.wrap (((p_ncn : Nat) : Int) + (p_ndns : Int)) = ((p_ncn : Nat) : Int) + (p_ndns : Int) := IntWalk.i64_in _ (by omega)
      have w7_1 : IntKind.i64.wrap (((p_ncn : Nat) : Int) + (p_ndns : Int) + (p_nip : Int)) = ((p_ncn : Nat) : Int) + (p_ndns : Int) + (p_nip : Int) := IntWalk.i64_in _ (by omega)
      have w7_2 : IntKind.i64.wrap (((p_ncn : Nat) : Int) + (p_ndns : Int) + (p_nip : Int) + (p_nem : Int)) = ((p_ncn : Nat) : Int) + (p_ndns : Int) + (p_nip : Int) + (p_nem : Int) := IntWalk.i64_in _ (by omega)
      have w7_3 : IntKind.i64.wrap (((p_ncn : Nat) : Int) + (p_ndns : Int) + (p_nip : Int) + (p_nem : Int) + (p_nuri : Int)) = ((p_ncn : Nat) : Int) + (p_ndns : Int) + (p_nip : Int) + (p_nem : Int) + (p_nuri : Int) := IntWalk.i64_in _ (by omega)
      have w7_4 : IntKind.i64.wrap (((p_ncn : Nat) : Int) + (p_ndns : Int) + (p_nip : Int) + (p_nem : Int) + (p_nuri : Int) + (p_npr : Int)) = ((p_ncn : Nat) : Int) + (p_ndns : Int) + (p_nip : Int) + (p_nem : Int) + (p_nuri : Int) + (p_npr : Int) := IntWalk.i64_in _ (by omega)
      go_still_tail 38, (by kernel_rfl)
      have cw7 : z7.drew.cell? ⟨w.heap.size, 21, none⟩ = some (.int .i64 f.k8) := c7_t
      have fw7 : z7.drew.frozen? ⟨w.heap.size, 21, none⟩ = false := f7_t
      clear c7_ncn c7_ndns c7_nip c7_nem c7_nuri c7_npr c7_t f7_t
      have Y7 : Hid (EngOK z7.drew w.heap.size a { f with k1 := ((p_cn : Nat) : Int) + (p_ncn : Int), k2 := ((p_dns : Nat) : Int) + (p_ndns : Int), k3 := ((p_ip : Nat) : Int) + (p_nip : Int), k4 := ((p_em : Nat) : Int) + (p_nem : Int), k5 := ((p_uri : Nat) : Int) + (p_nuri : Int), k6 := ((p_pr : Nat) : Int) + (p_npr : Int), k7 := ((p_cn : Nat) : Int) + (p_dns : Int) + (p_ip : Int) + (p_em : Int) + (p_uri : Int) + (p_pr : Int) } ∧ Ext w z7.drew ∧ Like a0 a) := ⟨Z7.out.1.drew, Z7.out.2.1.drew, Z7.out.2.2⟩
      change wpList _ _ _ _ _ z7.drew
      generalize z7.drew = q7 at Y7 cw7 fw7 ⊢
      have Z8 : Hid (EngOK (q7.setCell ⟨w.heap.size, 21, none⟩ (.int .i64 (((p_ncn : Nat) : Int) + (p_ndns : Int) + (p_nip : Int) + (p_nem : Int) + (p_nuri : Int) + (p_npr : Int)))) w.heap.size a { f with k1 := ((p_cn : Nat) : Int) + (p_ncn : Int), k2 := ((p_dns : Nat) : Int) + (p_ndns : Int), k3 := ((p_ip : Nat) : Int) + (p_nip : Int), k4 := ((p_em : Nat) : Int) + (p_nem : Int), k5 := ((p_uri : Nat) : Int) + (p_nuri : Int), k6 := ((p_pr : Nat) : Int) + (p_npr : Int), k7 := ((p_cn : Nat) : Int) + (p_dns : Int) + (p_ip : Int) + (p_em : Int) + (p_uri : Int) + (p_pr : Int), k8 := ((p_ncn : Nat) : Int) + (p_ndns : Int) + (p_nip : Int) + (p_nem : Int) + (p_nuri : Int) + (p_npr : Int) } ∧ Ext w (q7.setCell ⟨w.heap.size, 21, none⟩ (.int .i64 (((p_ncn : Nat) : Int) + (p_ndns : Int) + (p_nip : Int) + (p_nem : Int) + (p_nuri : Int) + (p_npr : Int)))) ∧ Like a0 a) := ⟨Y7.out.1.set_k8 _, Below.setCell Y7.out.2.1 (Nat.le_refl _) _, Y7.out.2.2⟩
      go_wp2
      generalize q7.setCell ⟨w.heap.size, 21, none⟩ (.int .i64 (((p_ncn : Nat) : Int) + (p_ndns : Int) + (p_nip : Int) + (p_nem : Int) + (p_nuri : Int) + (p_npr : Int))) = z8 at Z8 ⊢
      clear Y7 Z7 cw7 fw7 w7_0 w7_1 w7_2 w7_3 w7_4
      have d1 : z8.cell? ⟨w.heap.size, 20, none⟩ = some (.int .i64 (((p_cn : Nat) : Int) + (p_dns : Int) + (p_ip : Int) + (p_em : Int) + (p_uri : Int) + (p_pr : Int))) := Z8.out.1.blk.cell 20
      have d2 : z8.cell? ⟨w.heap.size, 21, none⟩ = some (.int .i64 (((p_ncn : Nat) : Int) + (p_ndns : Int) + (p_nip : Int) + (p_nem : Int) + (p_nuri : Int) + (p_npr : Int))) := Z8.out.1.blk.cell 21
      have d3 : IntKind.i64.wrap ((((p_cn : Nat) : Int) + (p_dns : Int) + (p_ip : Int) + (p_em : Int) + (p_uri : Int) + (p_pr : Int)) + (((p_ncn : Nat) : Int) + (p_ndns : Int) + (p_nip : Int) + (p_nem : Int) + (p_nuri : Int) + (p_npr : Int))) = (((p_cn : Nat) : Int) + (p_dns : Int) + (p_ip : Int) + (p_em : Int) + (p_uri : Int) + (p_pr : Int)) + (((p_ncn : Nat) : Int) + (p_ndns : Int) + (p_nip : Int) + (p_nem : Int) + (p_nuri : Int) + (p_npr : Int)) := IntWalk.i64_in _ (by omega)
      go_still_tail 12, (by kernel_rfl)
      have cw8 : z8.drew.cell? ⟨w.heap.size, 22, none⟩ = some (.int .i64 f.k9) := Z8.out.1.blk.cell 22
      have fw8 : z8.drew.frozen? ⟨w.heap.size, 22, none⟩ = false := Z8.out.1.blk.frozen 22
      clear d1 d2
      have Y8 : Hid (EngOK z8.drew w.heap.size a { f with k1 := ((p_cn : Nat) : Int) + (p_ncn : Int), k2 := ((p_dns : Nat) : Int) + (p_ndns : Int), k3 := ((p_ip : Nat) : Int) + (p_nip : Int), k4 := ((p_em : Nat) : Int) + (p_nem : Int), k5 := ((p_uri : Nat) : Int) + (p_nuri : Int), k6 := ((p_pr : Nat) : Int) + (p_npr : Int), k7 := ((p_cn : Nat) : Int) + (p_dns : Int) + (p_ip : Int) + (p_em : Int) + (p_uri : Int) + (p_pr : Int), k8 := ((p_ncn : Nat) : Int) + (p_ndns : Int) + (p_nip : Int) + (p_nem : Int) + (p_nuri : Int) + (p_npr : Int) } ∧ Ext w z8.drew ∧ Like a0 a) := ⟨Z8.out.1.drew, Z8.out.2.1.drew, Z8.out.2.2⟩
      change wpList _ _ _ _ _ z8.drew
      generalize z8.drew = q8 at Y8 cw8 fw8 ⊢
      go_wp2
      go_ret2
      refine ⟨w.heap.size, a, rfl, Nat.le_refl _, ⟨_, Y8.out.1.set_k9 _, ?_⟩, by rw [← HA0.out]; exact Y8.out.2.2, Below.setCell Y8.out.2.1 (Nat.le_refl _) _⟩
      unfold Counted
      rw [← Q_cn.out, ← Q_ncn.out, ← Q_dns.out, ← Q_ndns.out, ← Q_ip.out, ← Q_nip.out, ← Q_em.out, ← Q_nem.out, ← Q_uri.out, ← Q_nuri.out, ← Q_pr.out, ← Q_npr.out]
      exact ⟨rfl, rfl, rfl, rfl, rfl, rfl, rfl, rfl, rfl⟩
end Go.Proofs.YtedniebpabfglaaGreatDoor
