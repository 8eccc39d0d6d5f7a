/- Engines that hold the same, up to the order and the number of times; removeDuplicates on a field. -/
import Derived.Test.YtedniebpabfglaaGreatDoorDup
namespace Go.Proofs.YtedniebpabfglaaGreatDoor
open Go.RowKit
/-- The same texts. -/
def SameT (l l2 : List (List UInt8)) : Prop := (∀ y, y ∈ l2 ↔ y ∈ l) ∧ l2.length ≤ l.length
/-- Networks: the same where there is one at most. -/
def SameN (l l2 : List Net) : Prop := (l.length ≤ 1 → l2 = l) ∧ l2.length ≤ l.length
theorem SameT.refl (l : List (List UInt8)) : SameT l l := ⟨fun _ => Iff.rfl, Nat.le_refl _⟩
theorem SameN.refl (l : List Net) : SameN l l := ⟨fun _ => rfl, Nat.le_refl _⟩
theorem SameT.nil {l : List (List UInt8)} (h : SameT [] l) : l = [] := List.eq_nil_of_length_eq_zero (by have := h.2; simp at this; simp [this])
/-- Engines that hold the same. -/
structure Like (a b : AE) : Prop where
  ver : b.ver = a.ver
  lit : b.lit = a.lit
  cn : SameT a.cn b.cn
  ncn : SameT a.ncn b.ncn
  dns : SameT a.dns b.dns
  ndns : SameT a.ndns b.ndns
  ip : SameN a.ip b.ip
  nip : SameN a.nip b.nip
  em : SameT a.em b.em
  nem : SameT a.nem b.nem
  uri : SameT a.uri b.uri
  nuri : SameT a.nuri b.nuri
  pr : SameT a.pr b.pr
  npr : SameT a.npr b.npr
theorem Like.refl (a : AE) : Like a a := ⟨rfl, rfl, .refl _, .refl _, .refl _, .refl _, .refl _, .refl _, .refl _, .refl _, .refl _, .refl _, .refl _, .refl _⟩
theorem Like.set_cn {a b : AE} (h : Like a b) (l : List (List UInt8)) (hl : SameT a.cn l) : Like a { b with cn := l } := ⟨h.ver, h.lit, hl, h.ncn, h.dns, h.ndns, h.ip, h.nip, h.em, h.nem, h.uri, h.nuri, h.pr, h.npr⟩
theorem Like.then_cn {a b : AE} (h : Like a b) {l : List (List UInt8)} (hl : SameT b.cn l) : SameT a.cn l := ⟨fun y => (hl.1 y).trans (h.cn.1 y), Nat.le_trans hl.2 h.cn.2⟩
theorem Like.set_ncn {a b : AE} (h : Like a b) (l : List (List UInt8)) (hl : SameT a.ncn l) : Like a { b with ncn := l } := ⟨h.ver, h.lit, h.cn, hl, h.dns, h.ndns, h.ip, h.nip, h.em, h.nem, h.uri, h.nuri, h.pr, h.npr⟩
theorem Like.then_ncn {a b : AE} (h : Like a b) {l : List (List UInt8)} (hl : SameT b.ncn l) : SameT a.ncn l := ⟨fun y => (hl.1 y).trans (h.ncn.1 y), Nat.le_trans hl.2 h.ncn.2⟩
theorem Like.set_dns {a b : AE} (h : Like a b) (l : List (List UInt8)) (hl : SameT a.dns l) : Like a { b with dns := l } := ⟨h.ver, h.lit, h.cn, h.ncn, hl, h.ndns, h.ip, h.nip, h.em, h.nem, h.uri, h.nuri, h.pr, h.npr⟩
theorem Like.then_dns {a b : AE} (h : Like a b) {l : List (List UInt8)} (hl : SameT b.dns l) : SameT a.dns l := ⟨fun y => (hl.1 y).trans (h.dns.1 y), Nat.le_trans hl.2 h.dns.2⟩
theorem Like.set_ndns {a b : AE} (h : Like a b) (l : List (List UInt8)) (hl : SameT a.ndns l) : Like a { b with ndns := l } := ⟨h.ver, h.lit, h.cn, h.ncn, h.dns, hl, h.ip, h.nip, h.em, h.nem, h.uri, h.nuri, h.pr, h.npr⟩
theorem Like.then_ndns {a b : AE} (h : Like a b) {l : List (List UInt8)} (hl : SameT b.ndns l) : SameT a.ndns l := ⟨fun y => (hl.1 y).trans (h.ndns.1 y), Nat.le_trans hl.2 h.ndns.2⟩
theorem Like.set_ip {a b : AE} (h : Like a b) (l : List Net) (hl : SameN a.ip l) : Like a { b with ip := l } := ⟨h.ver, h.lit, h.cn, h.ncn, h.dns, h.ndns, hl, h.nip, h.em, h.nem, h.uri, h.nuri, h.pr, h.npr⟩
theorem Like.then_ip {a b : AE} (h : Like a b) {l : List Net} (hl : SameN b.ip l) : SameN a.ip l := ⟨fun h1 => by have e := h.ip.1 h1; exact (hl.1 (by rw [e]; exact h1)).trans e, Nat.le_trans hl.2 h.ip.2⟩
theorem Like.set_nip {a b : AE} (h : Like a b) (l : List Net) (hl : SameN a.nip l) : Like a { b with nip := l } := ⟨h.ver, h.lit, h.cn, h.ncn, h.dns, h.ndns, h.ip, hl, h.em, h.nem, h.uri, h.nuri, h.pr, h.npr⟩
theorem Like.then_nip {a b : AE} (h : Like a b) {l : List Net} (hl : SameN b.nip l) : SameN a.nip l := ⟨fun h1 => by have e := h.nip.1 h1; exact (hl.1 (by rw [e]; exact h1)).trans e, Nat.le_trans hl.2 h.nip.2⟩
theorem Like.set_em {a b : AE} (h : Like a b) (l : List (List UInt8)) (hl : SameT a.em l) : Like a { b with em := l } := ⟨h.ver, h.lit, h.cn, h.ncn, h.dns, h.ndns, h.ip, h.nip, hl, h.nem, h.uri, h.nuri, h.pr, h.npr⟩
theorem Like.then_em {a b : AE} (h : Like a b) {l : List (List UInt8)} (hl : SameT b.em l) : SameT a.em l := ⟨fun y => (hl.1 y).trans (h.em.1 y), Nat.le_trans hl.2 h.em.2⟩
theorem Like.set_nem {a b : AE} (h : Like a b) (l : List (List UInt8)) (hl : SameT a.nem l) : Like a { b with nem := l } := ⟨h.ver, h.lit, h.cn, h.ncn, h.dns, h.ndns, h.ip, h.nip, h.em, hl, h.uri, h.nuri, h.pr, h.npr⟩
theorem Like.then_nem {a b : AE} (h : Like a b) {l : List (List UInt8)} (hl : SameT b.nem l) : SameT a.nem l := ⟨fun y => (hl.1 y).trans (h.nem.1 y), Nat.le_trans hl.2 h.nem.2⟩
theorem Like.set_uri {a b : AE} (h : Like a b) (l : List (List UInt8)) (hl : SameT a.uri l) : Like a { b with uri := l } := ⟨h.ver, h.lit, h.cn, h.ncn, h.dns, h.ndns, h.ip, h.nip, h.em, h.nem, hl, h.nuri, h.pr, h.npr⟩
theorem Like.then_uri {a b : AE} (h : Like a b) {l : List (List UInt8)} (hl : SameT b.uri l) : SameT a.uri l := ⟨fun y => (hl.1 y).trans (h.uri.1 y), Nat.le_trans hl.2 h.uri.2⟩
theorem Like.set_nuri {a b : AE} (h : Like a b) (l : List (List UInt8)) (hl : SameT a.nuri l) : Like a { b with nuri := l } := ⟨h.ver, h.lit, h.cn, h.ncn, h.dns, h.ndns, h.ip, h.nip, h.em, h.nem, h.uri, hl, h.pr, h.npr⟩
theorem Like.then_nuri {a b : AE} (h : Like a b) {l : List (List UInt8)} (hl : SameT b.nuri l) : SameT a.nuri l := ⟨fun y => (hl.1 y).trans (h.nuri.1 y), Nat.le_trans hl.2 h.nuri.2⟩
theorem Like.set_pr {a b : AE} (h : Like a b) (l : List (List UInt8)) (hl : SameT a.pr l) : Like a { b with pr := l } := ⟨h.ver, h.lit, h.cn, h.ncn, h.dns, h.ndns, h.ip, h.nip, h.em, h.nem, h.uri, h.nuri, hl, h.npr⟩
theorem Like.then_pr {a b : AE} (h : Like a b) {l : List (List UInt8)} (hl : SameT b.pr l) : SameT a.pr l := ⟨fun y => (hl.1 y).trans (h.pr.1 y), Nat.le_trans hl.2 h.pr.2⟩
theorem Like.set_npr {a b : AE} (h : Like a b) (l : List (List UInt8)) (hl : SameT a.npr l) : Like a { b with npr := l } := ⟨h.ver, h.lit, h.cn, h.ncn, h.dns, h.ndns, h.ip, h.nip, h.em, h.nem, h.uri, h.nuri, h.pr, hl⟩
theorem Like.then_npr {a b : AE} (h : Like a b) {l : List (List UInt8)} (hl : SameT b.npr l) : SameT a.npr l := ⟨fun y => (hl.1 y).trans (h.npr.1 y), Nat.le_trans hl.2 h.npr.2⟩
/-- Few of each. -/
def AE.few (a : AE) : Prop := a.cn.length ≤ 1000 ∧ a.ncn.length ≤ 1000 ∧ a.dns.length ≤ 1000 ∧ a.ndns.length ≤ 1000 ∧ a.ip.length ≤ 1000 ∧ a.nip.length ≤ 1000 ∧ a.em.length ≤ 1000 ∧ a.nem.length ≤ 1000 ∧ a.uri.length ≤ 1000 ∧ a.nuri.length ≤ 1000 ∧ a.pr.length ≤ 1000 ∧ a.npr.length ≤ 1000
theorem AE.few.like {a b : AE} (h : a.few) (k : Like a b) : b.few := by
  obtain ⟨h0, h1, h2, h3, h4, h5, h6, h7, h8, h9, h10, h11⟩ := h
  exact ⟨Nat.le_trans k.cn.2 h0, Nat.le_trans k.ncn.2 h1, Nat.le_trans k.dns.2 h2, Nat.le_trans k.ndns.2 h3, Nat.le_trans k.ip.2 h4, Nat.le_trans k.nip.2 h5, Nat.le_trans k.em.2 h6, Nat.le_trans k.nem.2 h7, Nat.le_trans k.uri.2 h8, Nat.le_trans k.nuri.2 h9, Nat.le_trans k.pr.2 h10, Nat.le_trans k.npr.2 h11⟩
theorem AE.few.cn {a : AE} (h : a.few) : a.cn.length ≤ 1000 := h.1
theorem AE.few.ncn {a : AE} (h : a.few) : a.ncn.length ≤ 1000 := h.2.1
theorem AE.few.dns {a : AE} (h : a.few) : a.dns.length ≤ 1000 := h.2.2.1
theorem AE.few.ndns {a : AE} (h : a.few) : a.ndns.length ≤ 1000 := h.2.2.2.1
theorem AE.few.ip {a : AE} (h : a.few) : a.ip.length ≤ 1000 := h.2.2.2.2.1
theorem AE.few.nip {a : AE} (h : a.few) : a.nip.length ≤ 1000 := h.2.2.2.2.2.1
theorem AE.few.em {a : AE} (h : a.few) : a.em.length ≤ 1000 := h.2.2.2.2.2.2.1
theorem AE.few.nem {a : AE} (h : a.few) : a.nem.length ≤ 1000 := h.2.2.2.2.2.2.2.1
theorem AE.few.uri {a : AE} (h : a.few) : a.uri.length ≤ 1000 := h.2.2.2.2.2.2.2.2.1
theorem AE.few.nuri {a : AE} (h : a.few) : a.nuri.length ≤ 1000 := h.2.2.2.2.2.2.2.2.2.1
theorem AE.few.pr {a : AE} (h : a.few) : a.pr.length ≤ 1000 := h.2.2.2.2.2.2.2.2.2.2.1
theorem AE.few.npr {a : AE} (h : a.few) : a.npr.length ≤ 1000 := h.2.2.2.2.2.2.2.2.2.2.2
/-- What removeDuplicates returns of a field. -/
def DupF (g : Nat) (l : List (List UInt8)) (w : World) (e : Ending) (w2 : World) : Prop := ∃ A n c l2, e = .returned (.slice A n c) ∧ StrF w2 g (.slice A n c) l2 ∧ SameT l l2 ∧ Ext w w2
def DupN (g : Nat) (l : List Net) (w : World) (e : Ending) (w2 : World) : Prop := ∃ A n c l2, e = .returned (.slice A n c) ∧ NetF w2 g (.slice A n c) l2 ∧ SameN l l2 ∧ Ext w w2
theorem dup_f (g : Nat) (v : Value) (l : List (List UInt8)) (w : World) (hg : g < w.heap.size) (h : StrF w g v l) (hfew : l.length ≤ 1000) :
    Calls Tryz.prog 61 #[v] w (DupF g l w) := by
  obtain ⟨A, n, c, xs, rfl, hr, rfl, hs, hf⟩ := h
  have hn : xs.length = n := hr.1
  refine (dup_any g A n c xs w hg hr hf (by rw [List.length_map] at hfew; omega) hs).mono ?_
  rintro e w2 ⟨v, l, rfl, h1, h2, h3, h4⟩
  obtain ⟨A2, n2, c2, xs2, rfl, h5⟩ := h1
  exact ⟨A2, n2, c2, l, rfl, ⟨A2, n2, c2, xs2, rfl, h5⟩, ⟨h2, by simpa using h3⟩, h4⟩
set_option maxHeartbeats 1000000 in
/-- removeDuplicateIPNets of one network at most. -/
theorem dupn_one (g : Nat) (v : Value) (l : List Net) (w : World) (h : NetF w g v l) (hone : l.length ≤ 1) :
    Calls Tryz.prog 62 #[v] w (DupN g l w) := by
  have H := Lib.hid h
  obtain ⟨A, c, rfl, h2, h3⟩ := h
  clear h3
  have hc : (l.length : Int) ≤ 1 := by omega
  clear hone
  go_enter Tryz.func62, Tryz.ntmps62
  go_wp2
  go_ret
  exact ⟨_, _, _, l, rfl, H.out, .refl l, Ext.refl w⟩
theorem KeepG.trans {g : Nat} {a b c : World} (h : KeepG g a b) (k : KeepG g b c) : KeepG g a c :=
  ⟨k.os.trans h.os, k.tape.trans h.tape, k.output.trans h.output, Nat.le_trans h.size k.size, fun i hi hne => (k.block i (Nat.lt_of_lt_of_le hi h.size) hne).trans (h.block i hi hne)⟩
theorem KeepG.drew {g : Nat} {a b : World} (h : KeepG g a b) : KeepG g a b.drew := ⟨h.os, h.tape, h.output, h.size, h.block⟩
theorem EngOK.set_k1 {w : World} {g : Nat} {a : AE} {e : Eng} (h : EngOK w g a e) (i : Int) : EngOK (w.setCell ⟨g, 14, none⟩ (.int .i64 i)) g a { e with k1 := i } :=
  ⟨h.blk.set_ 14 _, h.cn.set 14 _, h.ncn.set 14 _, h.dns.set 14 _, h.ndns.set 14 _, h.ip.set 14 _, h.nip.set 14 _, h.em.set 14 _, h.nem.set 14 _, h.uri.set 14 _, h.nuri.set 14 _, h.pr.set 14 _, h.npr.set 14 _⟩
theorem EngOK.set_k2 {w : World} {g : Nat} {a : AE} {e : Eng} (h : EngOK w g a e) (i : Int) : EngOK (w.setCell ⟨g, 15, none⟩ (.int .i64 i)) g a { e with k2 := i } :=
  ⟨h.blk.set_ 15 _, h.cn.set 15 _, h.ncn.set 15 _, h.dns.set 15 _, h.ndns.set 15 _, h.ip.set 15 _, h.nip.set 15 _, h.em.set 15 _, h.nem.set 15 _, h.uri.set 15 _, h.nuri.set 15 _, h.pr.set 15 _, h.npr.set 15 _⟩
theorem EngOK.set_k3 {w : World} {g : Nat} {a : AE} {e : Eng} (h : EngOK w g a e) (i : Int) : EngOK (w.setCell ⟨g, 16, none⟩ (.int .i64 i)) g a { e with k3 := i } :=
  ⟨h.blk.set_ 16 _, h.cn.set 16 _, h.ncn.set 16 _, h.dns.set 16 _, h.ndns.set 16 _, h.ip.set 16 _, h.nip.set 16 _, h.em.set 16 _, h.nem.set 16 _, h.uri.set 16 _, h.nuri.set 16 _, h.pr.set 16 _, h.npr.set 16 _⟩
theorem EngOK.set_k4 {w : World} {g : Nat} {a : AE} {e : Eng} (h : EngOK w g a e) (i : Int) : EngOK (w.setCell ⟨g, 17, none⟩ (.int .i64 i)) g a { e with k4 := i } :=
  ⟨h.blk.set_ 17 _, h.cn.set 17 _, h.ncn.set 17 _, h.dns.set 17 _, h.ndns.set 17 _, h.ip.set 17 _, h.nip.set 17 _, h.em.set 17 _, h.nem.set 17 _, h.uri.set 17 _, h.nuri.set 17 _, h.pr.set 17 _, h.npr.set 17 _⟩
theorem EngOK.set_k5 {w : World} {g : Nat} {a : AE} {e : Eng} (h : EngOK w g a e) (i : Int) : EngOK (w.setCell ⟨g, 18, none⟩ (.int .i64 i)) g a { e with k5 := i } :=
  ⟨h.blk.set_ 18 _, h.cn.set 18 _, h.ncn.set 18 _, h.dns.set 18 _, h.ndns.set 18 _, h.ip.set 18 _, h.nip.set 18 _, h.em.set 18 _, h.nem.set 18 _, h.uri.set 18 _, h.nuri.set 18 _, h.pr.set 18 _, h.npr.set 18 _⟩
theorem EngOK.set_k6 {w : World} {g : Nat} {a : AE} {e : Eng} (h : EngOK w g a e) (i : Int) : EngOK (w.setCell ⟨g, 19, none⟩ (.int .i64 i)) g a { e with k6 := i } :=
  ⟨h.blk.set_ 19 _, h.cn.set 19 _, h.ncn.set 19 _, h.dns.set 19 _, h.ndns.set 19 _, h.ip.set 19 _, h.nip.set 19 _, h.em.set 19 _, h.nem.set 19 _, h.uri.set 19 _, h.nuri.set 19 _, h.pr.set 19 _, h.npr.set 19 _⟩
theorem EngOK.set_k7 {w : World} {g : Nat} {a : AE} {e : Eng} (h : EngOK w g a e) (i : Int) : EngOK (w.setCell ⟨g, 20, none⟩ (.int .i64 i)) g a { e with k7 := i } :=
  ⟨h.blk.set_ 20 _, h.cn.set 20 _, h.ncn.set 20 _, h.dns.set 20 _, h.ndns.set 20 _, h.ip.set 20 _, h.nip.set 20 _, h.em.set 20 _, h.nem.set 20 _, h.uri.set 20 _, h.nuri.set 20 _, h.pr.set 20 _, h.npr.set 20 _⟩
theorem EngOK.set_k8 {w : World} {g : Nat} {a : AE} {e : Eng} (h : EngOK w g a e) (i : Int) : EngOK (w.setCell ⟨g, 21, none⟩ (.int .i64 i)) g a { e with k8 := i } :=
  ⟨h.blk.set_ 21 _, h.cn.set 21 _, h.ncn.set 21 _, h.dns.set 21 _, h.ndns.set 21 _, h.ip.set 21 _, h.nip.set 21 _, h.em.set 21 _, h.nem.set 21 _, h.uri.set 21 _, h.nuri.set 21 _, h.pr.set 21 _, h.npr.set 21 _⟩
theorem EngOK.set_k9 {w : World} {g : Nat} {a : AE} {e : Eng} (h : EngOK w g a e) (i : Int) : EngOK (w.setCell ⟨g, 22, none⟩ (.int .i64 i)) g a { e with k9 := i } :=
  ⟨h.blk.set_ 22 _, h.cn.set 22 _, h.ncn.set 22 _, h.dns.set 22 _, h.ndns.set 22 _, h.ip.set 22 _, h.nip.set 22 _, h.em.set 22 _, h.nem.set 22 _, h.uri.set 22 _, h.nuri.set 22 _, h.pr.set 22 _, h.npr.set 22 _⟩
theorem EngOK.drew {w : World} {g : Nat} {a : AE} {e : Eng} (h : EngOK w g a e) : EngOK w.drew g a e := h.ext (Ext.refl w).drew
theorem StrF.form {w : World} {g : Nat} {v : Value} {l : List (List UInt8)} (h : StrF w g v l) : ∃ A n c, v = .slice A n c ∧ n = l.length := by
  obtain ⟨A, n, c, xs, rfl, h, rfl, _⟩ := h
  exact ⟨A, n, c, rfl, by rw [List.length_map]; exact h.1.symm⟩
theorem NetF.form {w : World} {g : Nat} {v : Value} {l : List Net} (h : NetF w g v l) : ∃ A n c, v = .slice A n c ∧ n = l.length := by
  obtain ⟨A, c, rfl, h⟩ := h
  exact ⟨A, _, c, rfl, rfl⟩
end Go.Proofs.YtedniebpabfglaaGreatDoor
