/- The walk of made. -/
import Derived.Test.YtedniebpabfglaaGreatDoorOpt2
import Derived.Test.YtedniebpabfglaaGreatDoorIsPolicy
import Derived.Deep.RegionHeld3
namespace Go.Proofs.YtedniebpabfglaaGreatDoor
open Go.RowKit

/-- What the twelve options do. -/
structure Upd where
  dns : AE → AE
  ndns : AE → AE
  ip : AE → AE
  nip : AE → AE
  em : AE → AE
  nem : AE → AE
  uri : AE → AE
  nuri : AE → AE
  cn : AE → AE
  ncn : AE → AE
  pr : AE → AE
  npr : AE → AE
def Upd.all (U : Upd) (lit ver : Bool) : List (AE → AE) := [U.dns, U.ndns, U.ip, U.nip, U.em, U.nem, U.uri, U.nuri, U.cn, U.ncn, U.pr, U.npr] ++ (if lit then [fun a => { a with lit := true }] else []) ++ (if ver then [fun a => { a with ver := true }] else [])
structure PolOpts (w : World) (q : Pol) (U : Upd) : Prop where
  dns : OptFor w 39 q.dns.xs U.dns
  ndns : OptFor w 41 q.ndns.xs U.ndns
  ip : OptFor w 42 q.ip.xs U.ip
  nip : OptFor w 47 q.nip.xs U.nip
  em : OptFor w 48 q.em.xs U.em
  nem : OptFor w 50 q.nem.xs U.nem
  uri : OptFor w 51 q.uri.xs U.uri
  nuri : OptFor w 53 q.nuri.xs U.nuri
  cn : OptFor w 54 q.cn.xs U.cn
  ncn : OptFor w 56 q.ncn.xs U.ncn
  pr : OptFor w 57 q.pr.xs U.pr
  npr : OptFor w 58 q.npr.xs U.npr
/-- A policy that is taken. -/
structure Pol.fine (q : Pol) : Prop where
  dns : q.dns.n ≤ 20 ∧ ∀ x ∈ q.dns.xs, fineT x
  ndns : q.ndns.n ≤ 20 ∧ ∀ x ∈ q.ndns.xs, fineT x
  ip : q.ip.n ≤ 20 ∧ ∀ x ∈ q.ip.xs, fineT x
  nip : q.nip.n ≤ 20 ∧ ∀ x ∈ q.nip.xs, fineT x
  em : q.em.n ≤ 20 ∧ ∀ x ∈ q.em.xs, fineT x
  nem : q.nem.n ≤ 20 ∧ ∀ x ∈ q.nem.xs, fineT x
  uri : q.uri.n ≤ 20 ∧ ∀ x ∈ q.uri.xs, fineT x
  nuri : q.nuri.n ≤ 20 ∧ ∀ x ∈ q.nuri.xs, fineT x
  cn : q.cn.n ≤ 20 ∧ ∀ x ∈ q.cn.xs, fineT x
  ncn : q.ncn.n ≤ 20 ∧ ∀ x ∈ q.ncn.xs, fineT x
  pr : q.pr.n ≤ 20 ∧ ∀ x ∈ q.pr.xs, fineT x
  npr : q.npr.n ≤ 20 ∧ ∀ x ∈ q.npr.xs, fineT x
def MadePost (w : World) (a : AE) (e : Ending) (w' : World) : Prop := ∃ g a', e = .returned (.pointer (some ⟨g, 0, none⟩)) ∧ w.heap.size ≤ g ∧ EngFin w' g a' ∧ Like a a' ∧ Ext w w'
/-- Options in a row. -/
inductive OptL (w : World) : List Value → List (AE → AE) → Prop where
  | nil : OptL w [] []
  | cons {v : Value} {u : AE → AE} {vs : List Value} {us : List (AE → AE)} (h : OptOK w v u) (t : OptL w vs us) : OptL w (v :: vs) (u :: us)
theorem OptL.mono {w w' : World} {vs : List Value} {us : List (AE → AE)} (h : OptL w vs us) (hx : Ext w w') : OptL w' vs us := by
  induction h with
  | nil => exact .nil
  | cons h _ ih => exact .cons (h.mono hx) ih
theorem OptL.snoc {w : World} {vs : List Value} {us : List (AE → AE)} {v : Value} {u : AE → AE} (h : OptL w vs us) (hv : OptOK w v u) : OptL w (vs ++ [v]) (us ++ [u]) := by
  induction h with
  | nil => exact .cons hv .nil
  | cons h _ ih => exact .cons h ih
theorem OptL.len {w : World} {vs : List Value} {us : List (AE → AE)} (h : OptL w vs us) : us.length = vs.length := by
  induction h with
  | nil => rfl
  | cons h _ ih => simp [ih]
theorem OptL.get {w : World} {vs : List Value} {us : List (AE → AE)} (h : OptL w vs us) : ∀ j, (h1 : j < us.length) → ∃ v, vs[j]? = some v ∧ OptOK w v us[j] := by
  induction h with
  | nil => intro j hj; simp at hj
  | cons h _ ih =>
    intro j hj
    cases j with
    | zero => exact ⟨_, rfl, h⟩
    | succ j => exact ih j (by simpa using hj)
theorem OptL.row {w : World} {base : Nat} {e : TypeId} {v : Value} {n : Nat} {vs : List Value} {us : List (AE → AE)} (h : OptL w vs us) (hr : w.ownsRow base e 1 v n vs) (hn : 0 < n) (hb : n ≤ 1000) : ∃ A c, v = .slice A n c ∧ OptS w w A n us := by
  obtain ⟨g, cap, rfl, _, _⟩ := hr.form hn
  have hl : vs.length = n := by have := hr.1; omega
  refine ⟨_, cap, rfl, by rw [h.len, hl], hb, fun j hj => ?_⟩
  obtain ⟨v, e1, e2⟩ := h.get j hj
  exact ⟨_, v, rfl, hr.cells (g := g) rfl j _ e1, e2⟩
theorem info_opt : (Tryz.prog.info? 41).map (fun i => (i.zero, i.size, i.bytes)) = some (some .nilFunc, 1, 8) := by kernel_rfl
/-- The slices of a policy. -/
def Pol.sls (q : Pol) : List Sl := [q.dns, q.ndns, q.ip, q.nip, q.em, q.nem, q.uri, q.nuri, q.cn, q.ncn, q.pr, q.npr]
theorem Pol.sl_of {w : World} {q : Pol} (hq : q.ok w) (hf : q.fine) {W : World} {B : Nat} {t : TypeId} (hB : Blk W B t #[q.dns.val, q.ndns.val, q.ip.val, q.nip.val, q.em.val, q.nem.val, q.uri.val, q.nuri.val, q.cn.val, q.ncn.val, q.pr.val, q.npr.val]) (k : Nat) (hk : k < 12) :
    ∃ s : Sl, W.cell? ⟨B, k, none⟩ = some s.val ∧ s.ok w ∧ s.n ≤ 20 ∧ ∀ x ∈ s.xs, fineT x := by
  have : k = 0 ∨ k = 1 ∨ k = 2 ∨ k = 3 ∨ k = 4 ∨ k = 5 ∨ k = 6 ∨ k = 7 ∨ k = 8 ∨ k = 9 ∨ k = 10 ∨ k = 11 := by omega
  rcases this with rfl | rfl | rfl | rfl | rfl | rfl | rfl | rfl | rfl | rfl | rfl | rfl
  · exact ⟨q.dns, hB.cell 0, hq.dns, hf.dns.1, hf.dns.2⟩
  · exact ⟨q.ndns, hB.cell 1, hq.ndns, hf.ndns.1, hf.ndns.2⟩
  · exact ⟨q.ip, hB.cell 2, hq.ip, hf.ip.1, hf.ip.2⟩
  · exact ⟨q.nip, hB.cell 3, hq.nip, hf.nip.1, hf.nip.2⟩
  · exact ⟨q.em, hB.cell 4, hq.em, hf.em.1, hf.em.2⟩
  · exact ⟨q.nem, hB.cell 5, hq.nem, hf.nem.1, hf.nem.2⟩
  · exact ⟨q.uri, hB.cell 6, hq.uri, hf.uri.1, hf.uri.2⟩
  · exact ⟨q.nuri, hB.cell 7, hq.nuri, hf.nuri.1, hf.nuri.2⟩
  · exact ⟨q.cn, hB.cell 8, hq.cn, hf.cn.1, hf.cn.2⟩
  · exact ⟨q.ncn, hB.cell 9, hq.ncn, hf.ncn.1, hf.ncn.2⟩
  · exact ⟨q.pr, hB.cell 10, hq.pr, hf.pr.1, hf.pr.2⟩
  · exact ⟨q.npr, hB.cell 11, hq.npr, hf.npr.1, hf.npr.2⟩
theorem keepS {W0 w' : World} {q : Pol} {B : Nat} {t : TypeId} (hB : Blk W0 B t q.cells) (hx : Ext W0 w') : Ext W0 w' ∧ w'.cell? ⟨B, 0, none⟩ = some q.dns.val ∧ w'.cell? ⟨B, 1, none⟩ = some q.ndns.val ∧ w'.cell? ⟨B, 2, none⟩ = some q.ip.val ∧ w'.cell? ⟨B, 3, none⟩ = some q.nip.val ∧ w'.cell? ⟨B, 4, none⟩ = some q.em.val ∧ w'.cell? ⟨B, 5, none⟩ = some q.nem.val ∧ w'.cell? ⟨B, 6, none⟩ = some q.uri.val ∧ w'.cell? ⟨B, 7, none⟩ = some q.nuri.val ∧ w'.cell? ⟨B, 8, none⟩ = some q.cn.val ∧ w'.cell? ⟨B, 9, none⟩ = some q.ncn.val ∧ w'.cell? ⟨B, 10, none⟩ = some q.pr.val ∧ w'.cell? ⟨B, 11, none⟩ = some q.npr.val :=
  ⟨hx, (hB.ext hx).cell 0, (hB.ext hx).cell 1, (hB.ext hx).cell 2, (hB.ext hx).cell 3, (hB.ext hx).cell 4, (hB.ext hx).cell 5, (hB.ext hx).cell 6, (hB.ext hx).cell 7, (hB.ext hx).cell 8, (hB.ext hx).cell 9, (hB.ext hx).cell 10, (hB.ext hx).cell 11⟩

set_option maxHeartbeats 40000000 in
set_option maxRecDepth 100000 in
theorem made_any (q : Pol) (U : Upd) (w : World) (hq : q.ok w) (hf : q.fine) (hU : PolOpts w q U) (hA : (optsOf (U.all q.lit q.ver)).few)
    (hD : ∀ g v w' l, Ext w w' → g < w'.heap.size → (l = (optsOf (U.all q.lit q.ver)).ip ∨ l = (optsOf (U.all q.lit q.ver)).nip) → NetF w' g v l → Calls Tryz.prog 62 #[v] w' (DupN g l w')) :
    Calls Tryz.prog 16 #[q.val] w (MadePost w (optsOf (U.all q.lit q.ver))) := by
  have HQ := Lib.hid hq; clear hq
  have HF := Lib.hid hf; clear hf
  have HU := Lib.hid hU; clear hU
  have HA := Lib.hid hA; clear hA
  have HD := Lib.hid hD; clear hD
  have hB0 : Blk (w.alloc (.cells q.cells 24)) w.heap.size 24 q.cells := Blk.new _ _ _
  have hB1 : Blk ((w.alloc (.cells q.cells 24)).alloc (.cells #[q.dns.val, q.ndns.val, q.ip.val, q.nip.val, q.em.val, q.nem.val, q.uri.val, q.nuri.val, q.cn.val, q.ncn.val, q.pr.val, q.npr.val] 22)) (w.heap.size + 1) 22 #[q.dns.val, q.ndns.val, q.ip.val, q.nip.val, q.em.val, q.nem.val, q.uri.val, q.nuri.val, q.cn.val, q.ncn.val, q.pr.val, q.npr.val] := by have := Blk.new (w.alloc (.cells q.cells 24)) 22 #[q.dns.val, q.ndns.val, q.ip.val, q.nip.val, q.em.val, q.nem.val, q.uri.val, q.nuri.val, q.cn.val, q.ncn.val, q.pr.val, q.npr.val]; rw [World.size_alloc] at this; exact this
  have HB0 := Lib.hid hB0; clear hB0
  have HB1 := Lib.hid hB1; clear hB1
  go_enter Tryz.func16, Tryz.ntmps16
  go_wp2
  have HX0 : Hid (Ext w ((w.alloc (.cells q.cells 24)).alloc (.cells #[q.dns.val, q.ndns.val, q.ip.val, q.nip.val, q.em.val, q.nem.val, q.uri.val, q.nuri.val, q.cn.val, q.ncn.val, q.pr.val, q.npr.val] 22))) := ((Ext.refl w).alloc _).alloc _
  have HB2 : Hid (Blk ((w.alloc (.cells q.cells 24)).alloc (.cells #[q.dns.val, q.ndns.val, q.ip.val, q.nip.val, q.em.val, q.nem.val, q.uri.val, q.nuri.val, q.cn.val, q.ncn.val, q.pr.val, q.npr.val] 22)) w.heap.size 24 q.cells) := HB0.out.alloc _
  clear HB0
  generalize (w.alloc (.cells q.cells 24)).alloc (.cells #[q.dns.val, q.ndns.val, q.ip.val, q.nip.val, q.em.val, q.nem.val, q.uri.val, q.nuri.val, q.cn.val, q.ncn.val, q.pr.val, q.npr.val] 22) = W1 at HX0 HB1 HB2 ⊢
  go_loopw [4, 34] (fun _ i wr => ∃ k : Nat, i = .int .i64 k ∧ k ≤ 12 ∧ Ext W1 wr) (fun _ i _ => 12 - (intOf i).toNat)
  case atStart => exact ⟨0, rfl, by omega, Ext.refl _⟩
  case round =>
    obtain ⟨k, rfl, hk, hb⟩ := hrel
    by_cases hlt : k < 12
    · obtain ⟨s, hc0, hs1, hs2, hs3⟩ := Pol.sl_of HQ.out HF.out HB1.out k hlt
      have hc := hb.cell hc0
      have HS := Lib.hid hs3; clear hs3 hc0
      have HS1 := Lib.hid hs1; clear hs1
      go_wp2_with fail
      refine (right_any s.A s.n s.c s.xs _ (HS1.out.1.ext (HX0.out.tr hb)) hs2 HS.out).mono ?_
      rintro e w2 ⟨rfl, hb2⟩
      go_wp2
      go_roundw
      case rel => exact ⟨k + 1, by go_num, by omega, hb.tr hb2⟩
      case measure => simp [intOf]; omega
    · obtain rfl : k = 12 := by omega
      have HX1 := Lib.hid (HX0.out.tr hb)
      have HB3 := Lib.hid (HB2.out.ext hb)
      clear hb HB1 HB2 hlt hk
      generalize hBB : w.heap.size = B at HB3 ⊢
      clear HX0
      have HX0 : Hid (Ext w wr) := HX1
      clear HX1
      go_wp2
      go_region_held3 (fun w' => Ext wr w' ∧ w'.cell? ⟨B, 0, none⟩ = some q.dns.val ∧ w'.cell? ⟨B, 1, none⟩ = some q.ndns.val ∧ w'.cell? ⟨B, 2, none⟩ = some q.ip.val ∧ w'.cell? ⟨B, 3, none⟩ = some q.nip.val ∧ w'.cell? ⟨B, 4, none⟩ = some q.em.val ∧ w'.cell? ⟨B, 5, none⟩ = some q.nem.val ∧ w'.cell? ⟨B, 6, none⟩ = some q.uri.val ∧ w'.cell? ⟨B, 7, none⟩ = some q.nuri.val ∧ w'.cell? ⟨B, 8, none⟩ = some q.cn.val ∧ w'.cell? ⟨B, 9, none⟩ = some q.ncn.val ∧ w'.cell? ⟨B, 10, none⟩ = some q.pr.val ∧ w'.cell? ⟨B, 11, none⟩ = some q.npr.val) (first | exact keepS HB3.out (by assumption) | exact keepS HB3.out (Ext.drew (Ext.refl _)) | exact keepS HB3.out (Ext.alloc (by assumption) _) | exact keepS HB3.out (Ext.alloc (And.left (by assumption)) _)) (first
        | (go_at_call 23; (refine (clone_any _ _ ?cok ?cn).mono ?_); (case cok => first | exact HQ.out.dns.ext (Ext.tr HX0.out (by first | assumption | exact And.left (by assumption))) | exact HQ.out.ndns.ext (Ext.tr HX0.out (by first | assumption | exact And.left (by assumption))) | exact HQ.out.ip.ext (Ext.tr HX0.out (by first | assumption | exact And.left (by assumption))) | exact HQ.out.nip.ext (Ext.tr HX0.out (by first | assumption | exact And.left (by assumption))) | exact HQ.out.em.ext (Ext.tr HX0.out (by first | assumption | exact And.left (by assumption))) | exact HQ.out.nem.ext (Ext.tr HX0.out (by first | assumption | exact And.left (by assumption))) | exact HQ.out.uri.ext (Ext.tr HX0.out (by first | assumption | exact And.left (by assumption))) | exact HQ.out.nuri.ext (Ext.tr HX0.out (by first | assumption | exact And.left (by assumption))) | exact HQ.out.cn.ext (Ext.tr HX0.out (by first | assumption | exact And.left (by assumption))) | exact HQ.out.ncn.ext (Ext.tr HX0.out (by first | assumption | exact And.left (by assumption))) | exact HQ.out.pr.ext (Ext.tr HX0.out (by first | assumption | exact And.left (by assumption))) | exact HQ.out.npr.ext (Ext.tr HX0.out (by first | assumption | exact And.left (by assumption)))); (case cn => first | exact HF.out.dns.1 | exact HF.out.ndns.1 | exact HF.out.ip.1 | exact HF.out.nip.1 | exact HF.out.em.1 | exact HF.out.nem.1 | exact HF.out.uri.1 | exact HF.out.nuri.1 | exact HF.out.cn.1 | exact HF.out.ncn.1 | exact HF.out.pr.1 | exact HF.out.npr.1); rintro _ _ ⟨_, rfl, _, _, _, hcx⟩; have hcy := Ext.tr (by first | assumption | exact And.left (by assumption)) hcx)
        | (go_at_call 22; (refine (with_dns _ _).mono ?_); rintro _ x_dns ⟨b_dns, rfl, hB, hwx⟩; have hwy := Ext.tr (by assumption) hwx; have hO_dns := Lib.hid (HU.out.dns _ b_dns _ (HX0.out.tr hwy) hB (Sl.ok.ext (by assumption) hwx) (by assumption) (Nat.le_trans (Nat.le_of_eq (by assumption)) HF.out.dns.1)); have hE_dns := Lib.hid (Ext.tr (show Ext wr.drew _ from by assumption) hwx); have hY_dns := Lib.hid hwy)
        | (go_at_call 24; (refine (with_ndns _ _).mono ?_); rintro _ x_ndns ⟨b_ndns, rfl, hB, hwx⟩; have hwy := Ext.tr (by assumption) hwx; have hO_ndns := Lib.hid (HU.out.ndns _ b_ndns _ (HX0.out.tr hwy) hB (Sl.ok.ext (by assumption) hwx) (by assumption) (Nat.le_trans (Nat.le_of_eq (by assumption)) HF.out.ndns.1)); have hE_ndns := Lib.hid (Ext.tr (show Ext x_dns _ from by assumption) hwx); have hY_ndns := Lib.hid hwy)
        | (go_at_call 25; (refine (with_ip _ _).mono ?_); rintro _ x_ip ⟨b_ip, rfl, hB, hwx⟩; have hwy := Ext.tr (by assumption) hwx; have hO_ip := Lib.hid (HU.out.ip _ b_ip _ (HX0.out.tr hwy) hB (Sl.ok.ext (by assumption) hwx) (by assumption) (Nat.le_trans (Nat.le_of_eq (by assumption)) HF.out.ip.1)); have hE_ip := Lib.hid (Ext.tr (show Ext x_ndns _ from by assumption) hwx); have hY_ip := Lib.hid hwy)
        | (go_at_call 26; (refine (with_nip _ _).mono ?_); rintro _ x_nip ⟨b_nip, rfl, hB, hwx⟩; have hwy := Ext.tr (by assumption) hwx; have hO_nip := Lib.hid (HU.out.nip _ b_nip _ (HX0.out.tr hwy) hB (Sl.ok.ext (by assumption) hwx) (by assumption) (Nat.le_trans (Nat.le_of_eq (by assumption)) HF.out.nip.1)); have hE_nip := Lib.hid (Ext.tr (show Ext x_ip _ from by assumption) hwx); have hY_nip := Lib.hid hwy)
        | (go_at_call 27; (refine (with_em _ _).mono ?_); rintro _ x_em ⟨b_em, rfl, hB, hwx⟩; have hwy := Ext.tr (by assumption) hwx; have hO_em := Lib.hid (HU.out.em _ b_em _ (HX0.out.tr hwy) hB (Sl.ok.ext (by assumption) hwx) (by assumption) (Nat.le_trans (Nat.le_of_eq (by assumption)) HF.out.em.1)); have hE_em := Lib.hid (Ext.tr (show Ext x_nip _ from by assumption) hwx); have hY_em := Lib.hid hwy)
        | (go_at_call 28; (refine (with_nem _ _).mono ?_); rintro _ x_nem ⟨b_nem, rfl, hB, hwx⟩; have hwy := Ext.tr (by assumption) hwx; have hO_nem := Lib.hid (HU.out.nem _ b_nem _ (HX0.out.tr hwy) hB (Sl.ok.ext (by assumption) hwx) (by assumption) (Nat.le_trans (Nat.le_of_eq (by assumption)) HF.out.nem.1)); have hE_nem := Lib.hid (Ext.tr (show Ext x_em _ from by assumption) hwx); have hY_nem := Lib.hid hwy)
        | (go_at_call 29; (refine (with_uri _ _).mono ?_); rintro _ x_uri ⟨b_uri, rfl, hB, hwx⟩; have hwy := Ext.tr (by assumption) hwx; have hO_uri := Lib.hid (HU.out.uri _ b_uri _ (HX0.out.tr hwy) hB (Sl.ok.ext (by assumption) hwx) (by assumption) (Nat.le_trans (Nat.le_of_eq (by assumption)) HF.out.uri.1)); have hE_uri := Lib.hid (Ext.tr (show Ext x_nem _ from by assumption) hwx); have hY_uri := Lib.hid hwy)
        | (go_at_call 30; (refine (with_nuri _ _).mono ?_); rintro _ x_nuri ⟨b_nuri, rfl, hB, hwx⟩; have hwy := Ext.tr (by assumption) hwx; have hO_nuri := Lib.hid (HU.out.nuri _ b_nuri _ (HX0.out.tr hwy) hB (Sl.ok.ext (by assumption) hwx) (by assumption) (Nat.le_trans (Nat.le_of_eq (by assumption)) HF.out.nuri.1)); have hE_nuri := Lib.hid (Ext.tr (show Ext x_uri _ from by assumption) hwx); have hY_nuri := Lib.hid hwy)
        | (go_at_call 31; (refine (with_cn _ _).mono ?_); rintro _ x_cn ⟨b_cn, rfl, hB, hwx⟩; have hwy := Ext.tr (by assumption) hwx; have hO_cn := Lib.hid (HU.out.cn _ b_cn _ (HX0.out.tr hwy) hB (Sl.ok.ext (by assumption) hwx) (by assumption) (Nat.le_trans (Nat.le_of_eq (by assumption)) HF.out.cn.1)); have hE_cn := Lib.hid (Ext.tr (show Ext x_nuri _ from by assumption) hwx); have hY_cn := Lib.hid hwy)
        | (go_at_call 32; (refine (with_ncn _ _).mono ?_); rintro _ x_ncn ⟨b_ncn, rfl, hB, hwx⟩; have hwy := Ext.tr (by assumption) hwx; have hO_ncn := Lib.hid (HU.out.ncn _ b_ncn _ (HX0.out.tr hwy) hB (Sl.ok.ext (by assumption) hwx) (by assumption) (Nat.le_trans (Nat.le_of_eq (by assumption)) HF.out.ncn.1)); have hE_ncn := Lib.hid (Ext.tr (show Ext x_cn _ from by assumption) hwx); have hY_ncn := Lib.hid hwy)
        | (go_at_call 33; (refine (with_pr _ _).mono ?_); rintro _ x_pr ⟨b_pr, rfl, hB, hwx⟩; have hwy := Ext.tr (by assumption) hwx; have hO_pr := Lib.hid (HU.out.pr _ b_pr _ (HX0.out.tr hwy) hB (Sl.ok.ext (by assumption) hwx) (by assumption) (Nat.le_trans (Nat.le_of_eq (by assumption)) HF.out.pr.1)); have hE_pr := Lib.hid (Ext.tr (show Ext x_ncn _ from by assumption) hwx); have hY_pr := Lib.hid hwy)
        | (go_at_call 34; (refine (with_npr _ _).mono ?_); rintro _ x_npr ⟨b_npr, rfl, hB, hwx⟩; have hwy := Ext.tr (by assumption) hwx; have hO_npr := Lib.hid (HU.out.npr _ b_npr _ (HX0.out.tr hwy) hB (Sl.ok.ext (by assumption) hwx) (by assumption) (Nat.le_trans (Nat.le_of_eq (by assumption)) HF.out.npr.1)); have hE_npr := Lib.hid (Ext.tr (show Ext x_pr _ from by assumption) hwx); have hY_npr := Lib.hid hwy))
      obtain ⟨fvs, hfv⟩ : ∃ l : List Value, l = [.func (.func 39) #[] #[.pointer (some ⟨b_dns, 0, none⟩)], .func (.func 41) #[] #[.pointer (some ⟨b_ndns, 0, none⟩)], .func (.func 42) #[] #[.pointer (some ⟨b_ip, 0, none⟩)], .func (.func 47) #[] #[.pointer (some ⟨b_nip, 0, none⟩)], .func (.func 48) #[] #[.pointer (some ⟨b_em, 0, none⟩)], .func (.func 50) #[] #[.pointer (some ⟨b_nem, 0, none⟩)], .func (.func 51) #[] #[.pointer (some ⟨b_uri, 0, none⟩)], .func (.func 53) #[] #[.pointer (some ⟨b_nuri, 0, none⟩)], .func (.func 54) #[] #[.pointer (some ⟨b_cn, 0, none⟩)], .func (.func 56) #[] #[.pointer (some ⟨b_ncn, 0, none⟩)], .func (.func 57) #[] #[.pointer (some ⟨b_pr, 0, none⟩)], .func (.func 58) #[] #[.pointer (some ⟨b_npr, 0, none⟩)]] := ⟨_, rfl⟩
      obtain ⟨us, hus⟩ : ∃ l : List (AE → AE), l = [U.dns, U.ndns, U.ip, U.nip, U.em, U.nem, U.uri, U.nuri, U.cn, U.ncn, U.pr, U.npr] := ⟨_, rfl⟩
      have e_npr : Ext x_npr x_npr := Ext.refl _
      have e_pr : Ext x_pr x_npr := Ext.tr hE_npr.out e_npr
      have e_ncn : Ext x_ncn x_npr := Ext.tr hE_pr.out e_pr
      have e_cn : Ext x_cn x_npr := Ext.tr hE_ncn.out e_ncn
      have e_nuri : Ext x_nuri x_npr := Ext.tr hE_cn.out e_cn
      have e_uri : Ext x_uri x_npr := Ext.tr hE_nuri.out e_nuri
      have e_nem : Ext x_nem x_npr := Ext.tr hE_uri.out e_uri
      have e_em : Ext x_em x_npr := Ext.tr hE_nem.out e_nem
      have e_nip : Ext x_nip x_npr := Ext.tr hE_em.out e_em
      have e_ip : Ext x_ip x_npr := Ext.tr hE_nip.out e_nip
      have e_ndns : Ext x_ndns x_npr := Ext.tr hE_ip.out e_ip
      have e_dns : Ext x_dns x_npr := Ext.tr hE_ndns.out e_ndns
      have hL : OptL x_npr fvs us := by
        rw [hfv, hus]
        exact .cons (hO_dns.out.mono e_dns) <| .cons (hO_ndns.out.mono e_ndns) <| .cons (hO_ip.out.mono e_ip) <| .cons (hO_nip.out.mono e_nip) <| .cons (hO_em.out.mono e_em) <| .cons (hO_nem.out.mono e_nem) <| .cons (hO_uri.out.mono e_uri) <| .cons (hO_nuri.out.mono e_nuri) <| .cons (hO_cn.out.mono e_cn) <| .cons (hO_ncn.out.mono e_ncn) <| .cons (hO_pr.out.mono e_pr) <| .cons (hO_npr.out.mono e_npr) <| .nil
      have hrow : (x_npr.alloc (.cells fvs.toArray 41)).ownsRow x_npr.heap.size 41 1 (.slice (some ⟨x_npr.heap.size, 0, none⟩) 12 12) 12 fvs := by
        have hl : fvs.length = 12 := by rw [hfv]; rfl
        exact ⟨by omega, Or.inr ⟨x_npr.heap.size, 12, fvs.toArray, rfl, Nat.le_refl _, heap_alloc_new _ _, Nat.le_refl _, by unfold maxLen; omega, by simp [hl], by simp [List.take_of_length_le (show fvs.length ≤ 12 * 1 by omega)]⟩⟩
      have HXX : Hid (Ext w x_npr) := HX0.out.tr hY_npr.out
      have HBX : Hid (Blk x_npr B 24 q.cells) := HB3.out.ext hY_npr.out
      have hE2 : Ext x_npr (x_npr.alloc (.cells fvs.toArray 41)) := (Ext.refl x_npr).alloc _
      have hcs : (#[.func (.func 39) #[] #[.pointer (some ⟨b_dns, 0, none⟩)], .func (.func 41) #[] #[.pointer (some ⟨b_ndns, 0, none⟩)], .func (.func 42) #[] #[.pointer (some ⟨b_ip, 0, none⟩)], .func (.func 47) #[] #[.pointer (some ⟨b_nip, 0, none⟩)], .func (.func 48) #[] #[.pointer (some ⟨b_em, 0, none⟩)], .func (.func 50) #[] #[.pointer (some ⟨b_nem, 0, none⟩)], .func (.func 51) #[] #[.pointer (some ⟨b_uri, 0, none⟩)], .func (.func 53) #[] #[.pointer (some ⟨b_nuri, 0, none⟩)], .func (.func 54) #[] #[.pointer (some ⟨b_cn, 0, none⟩)], .func (.func 56) #[] #[.pointer (some ⟨b_ncn, 0, none⟩)], .func (.func 57) #[] #[.pointer (some ⟨b_pr, 0, none⟩)], .func (.func 58) #[] #[.pointer (some ⟨b_npr, 0, none⟩)]] : Array Value) = fvs.toArray := by rw [hfv]
      rw [hcs]
      generalize x_npr.alloc (.cells fvs.toArray 41) = W2 at hrow hE2 ⊢
      have HR := Lib.hid hrow; have HE2 := Lib.hid hE2; have HL := Lib.hid hL; have HUS := Lib.hid hus
      clear hrow hE2 hL hcs hus hfv e_dns hO_dns hE_dns hY_dns e_ndns hO_ndns hE_ndns hY_ndns e_ip hO_ip hE_ip hY_ip e_nip hO_nip hE_nip hY_nip e_em hO_em hE_em hY_em e_nem hO_nem hE_nem hY_nem e_uri hO_uri hE_uri hY_uri e_nuri hO_nuri hE_nuri hY_nuri e_cn hO_cn hE_cn hY_cn e_ncn hO_ncn hE_ncn hY_ncn e_pr hO_pr hE_pr hY_pr e_npr hO_npr hE_npr hY_npr
      obtain ⟨i0, hi, hz0, hz1, hz2⟩ := info_parts info_opt
      have hcase : (q.lit = true ∧ q.ver = true) ∨ (q.lit = true ∧ q.ver = false) ∨ (q.lit = false ∧ q.ver = true) ∨ (q.lit = false ∧ q.ver = false) := by cases q.lit <;> cases q.ver <;> simp
      rcases hcase with hcase | hcase | hcase | hcase
      · have HLI := Lib.hid hcase.1; have HV := Lib.hid hcase.2; clear hcase
        have hc12 : W2.cell? ⟨B, 12, none⟩ = some (.bool true) := by have h := (HBX.out.ext HE2.out).cell 12; rw [show q.cells[12]? = some (.bool q.lit) from rfl, HLI.out] at h; exact h
        go_wp2_with fail
        refine (with_lit _).mono ?_
        rintro e _ ⟨rfl, rfl⟩
        go_wp2_with (at_builtin; refine wpList_append_own _ rfl _ _ 44 rfl x_npr.heap.size 41 i0 .nilFunc 1 8 Tryz.underlying44 hi hz0 hz1 hz2 rfl (by decide) _ _ _ rfl (HR.out.alloc _) ⟨_, 0, none⟩ 1 1 [.func (.func 59) #[] #[]] rfl rfl (one_new _ _ _) (by intro u hu; simp at hu; subst hu; rfl) (by unfold maxLen; omega) (by omega) (HE2.out.alloc _).size ?_; intro v1 w1 hown1 hgrow1 hnil1; obtain ⟨g1, cap1, rfl, hbb1, hcap1⟩ := hown1.form (by decide); have hE1 := Lib.hid (KeepG.old (HE2.out.alloc _) (Nat.le_refl _) hgrow1); have hR1 := Lib.hid hown1; have hbh1 := Lib.hid hbb1; clear hown1 hgrow1 hnil1 hcap1 hbb1; have hc13 : w1.cell? ⟨B, 13, none⟩ = some (.bool true) := by have h := (HBX.out.ext hE1.out).cell 13; rw [show q.cells[13]? = some (.bool q.ver) from rfl, HV.out] at h; exact h)
        refine (with_ver _).mono ?_
        rintro e _ ⟨rfl, rfl⟩
        go_wp2_with (at_builtin; refine wpList_append_own _ rfl _ _ 44 rfl x_npr.heap.size 41 i0 .nilFunc 1 8 Tryz.underlying44 hi hz0 hz1 hz2 rfl (by decide) _ _ _ rfl (hR1.out.alloc _) ⟨_, 0, none⟩ 1 1 [.func (.func 60) #[] #[]] rfl rfl (one_new _ _ _) (by intro u hu; simp at hu; subst hu; rfl) (by unfold maxLen; omega) (by omega) (hE1.out.alloc _).size ?_; intro v2 w2 hown2 hgrow2 hnil2; obtain ⟨g2, cap2, rfl, hbb2, hcap2⟩ := hown2.form (by decide); have hE2 := Lib.hid (KeepG.old (hE1.out.alloc _) hbh1.out hgrow2); have hR2 := Lib.hid hown2; have hbh2 := Lib.hid hbb2; clear hown2 hgrow2 hnil2 hcap2 hbb2)
        have hall : U.all q.lit q.ver = us ++ [fun a => { a with lit := true }] ++ [fun a => { a with ver := true }] := by rw [HUS.out, HLI.out, HV.out]; rfl
        obtain ⟨AA, cc, hvv, hos⟩ := (((HL.out.snoc (optok_lit _)).snoc (optok_ver _)).mono hE2.out).row hR2.out (by decide) (by decide)
        rw [← hall] at hos
        injection hvv with h1 h2 h3; subst h1 h3
        refine (new_any _ _ _ _ _ hos HA.out (fun g v w' l hx => HD.out g v w' l ((HXX.out.tr hE2.out).tr hx))).mono ?_
        rintro e w5 ⟨g, a', rfl, hg, hfin, hlike, hx⟩
        have HFN := Lib.hid hfin; have HLK := Lib.hid hlike; have HX5 := Lib.hid hx; have HG := Lib.hid hg; clear hfin hlike hx hg hos hall
        go_wp2
        go_ret
        exact ⟨g, a', rfl, Nat.le_trans (HXX.out.tr hE2.out).size HG.out, HFN.out, HLK.out, (HXX.out.tr hE2.out).tr HX5.out⟩
      · have HLI := Lib.hid hcase.1; have HV := Lib.hid hcase.2; clear hcase
        have hc12 : W2.cell? ⟨B, 12, none⟩ = some (.bool true) := by have h := (HBX.out.ext HE2.out).cell 12; rw [show q.cells[12]? = some (.bool q.lit) from rfl, HLI.out] at h; exact h
        go_wp2_with fail
        refine (with_lit _).mono ?_
        rintro e _ ⟨rfl, rfl⟩
        go_wp2_with (at_builtin; refine wpList_append_own _ rfl _ _ 44 rfl x_npr.heap.size 41 i0 .nilFunc 1 8 Tryz.underlying44 hi hz0 hz1 hz2 rfl (by decide) _ _ _ rfl (HR.out.alloc _) ⟨_, 0, none⟩ 1 1 [.func (.func 59) #[] #[]] rfl rfl (one_new _ _ _) (by intro u hu; simp at hu; subst hu; rfl) (by unfold maxLen; omega) (by omega) (HE2.out.alloc _).size ?_; intro v1 w1 hown1 hgrow1 hnil1; obtain ⟨g1, cap1, rfl, hbb1, hcap1⟩ := hown1.form (by decide); have hE1 := Lib.hid (KeepG.old (HE2.out.alloc _) (Nat.le_refl _) hgrow1); have hR1 := Lib.hid hown1; have hbh1 := Lib.hid hbb1; clear hown1 hgrow1 hnil1 hcap1 hbb1; have hc13 : w1.cell? ⟨B, 13, none⟩ = some (.bool false) := by have h := (HBX.out.ext hE1.out).cell 13; rw [show q.cells[13]? = some (.bool q.ver) from rfl, HV.out] at h; exact h)
        have hall : U.all q.lit q.ver = us ++ [fun a => { a with lit := true }] := by rw [HUS.out, HLI.out, HV.out]; rfl
        obtain ⟨AA, cc, hvv, hos⟩ := ((HL.out.snoc (optok_lit _)).mono hE1.out).row hR1.out (by decide) (by decide)
        rw [← hall] at hos
        injection hvv with h1 h2 h3; subst h1 h3
        refine (new_any _ _ _ _ _ hos HA.out (fun g v w' l hx => HD.out g v w' l ((HXX.out.tr hE1.out).tr hx))).mono ?_
        rintro e w5 ⟨g, a', rfl, hg, hfin, hlike, hx⟩
        have HFN := Lib.hid hfin; have HLK := Lib.hid hlike; have HX5 := Lib.hid hx; have HG := Lib.hid hg; clear hfin hlike hx hg hos hall
        go_wp2
        go_ret
        exact ⟨g, a', rfl, Nat.le_trans (HXX.out.tr hE1.out).size HG.out, HFN.out, HLK.out, (HXX.out.tr hE1.out).tr HX5.out⟩
      · have HLI := Lib.hid hcase.1; have HV := Lib.hid hcase.2; clear hcase
        have hc12 : W2.cell? ⟨B, 12, none⟩ = some (.bool false) := by have h := (HBX.out.ext HE2.out).cell 12; rw [show q.cells[12]? = some (.bool q.lit) from rfl, HLI.out] at h; exact h
        have hc13 : W2.cell? ⟨B, 13, none⟩ = some (.bool true) := by have h := (HBX.out.ext HE2.out).cell 13; rw [show q.cells[13]? = some (.bool q.ver) from rfl, HV.out] at h; exact h
        go_wp2_with fail
        refine (with_ver _).mono ?_
        rintro e _ ⟨rfl, rfl⟩
        go_wp2_with (at_builtin; refine wpList_append_own _ rfl _ _ 44 rfl x_npr.heap.size 41 i0 .nilFunc 1 8 Tryz.underlying44 hi hz0 hz1 hz2 rfl (by decide) _ _ _ rfl (HR.out.alloc _) ⟨_, 0, none⟩ 1 1 [.func (.func 60) #[] #[]] rfl rfl (one_new _ _ _) (by intro u hu; simp at hu; subst hu; rfl) (by unfold maxLen; omega) (by omega) (HE2.out.alloc _).size ?_; intro v1 w1 hown1 hgrow1 hnil1; obtain ⟨g1, cap1, rfl, hbb1, hcap1⟩ := hown1.form (by decide); have hE1 := Lib.hid (KeepG.old (HE2.out.alloc _) (Nat.le_refl _) hgrow1); have hR1 := Lib.hid hown1; have hbh1 := Lib.hid hbb1; clear hown1 hgrow1 hnil1 hcap1 hbb1)
        have hall : U.all q.lit q.ver = us ++ [fun a => { a with ver := true }] := by rw [HUS.out, HLI.out, HV.out]; rfl
        obtain ⟨AA, cc, hvv, hos⟩ := ((HL.out.snoc (optok_ver _)).mono hE1.out).row hR1.out (by decide) (by decide)
        rw [← hall] at hos
        injection hvv with h1 h2 h3; subst h1 h3
        refine (new_any _ _ _ _ _ hos HA.out (fun g v w' l hx => HD.out g v w' l ((HXX.out.tr hE1.out).tr hx))).mono ?_
        rintro e w5 ⟨g, a', rfl, hg, hfin, hlike, hx⟩
        have HFN := Lib.hid hfin; have HLK := Lib.hid hlike; have HX5 := Lib.hid hx; have HG := Lib.hid hg; clear hfin hlike hx hg hos hall
        go_wp2
        go_ret
        exact ⟨g, a', rfl, Nat.le_trans (HXX.out.tr hE1.out).size HG.out, HFN.out, HLK.out, (HXX.out.tr hE1.out).tr HX5.out⟩
      · have HLI := Lib.hid hcase.1; have HV := Lib.hid hcase.2; clear hcase
        have hc12 : W2.cell? ⟨B, 12, none⟩ = some (.bool false) := by have h := (HBX.out.ext HE2.out).cell 12; rw [show q.cells[12]? = some (.bool q.lit) from rfl, HLI.out] at h; exact h
        have hc13 : W2.cell? ⟨B, 13, none⟩ = some (.bool false) := by have h := (HBX.out.ext HE2.out).cell 13; rw [show q.cells[13]? = some (.bool q.ver) from rfl, HV.out] at h; exact h
        go_wp2_with fail
        have hall : U.all q.lit q.ver = us := by rw [HUS.out, HLI.out, HV.out]; rfl
        obtain ⟨AA, cc, hvv, hos⟩ := (HL.out.mono HE2.out).row HR.out (by decide) (by decide)
        rw [← hall] at hos
        injection hvv with h1 h2 h3; subst h1 h3
        refine (new_any _ _ _ _ _ hos HA.out (fun g v w' l hx => HD.out g v w' l ((HXX.out.tr HE2.out).tr hx))).mono ?_
        rintro e w5 ⟨g, a', rfl, hg, hfin, hlike, hx⟩
        have HFN := Lib.hid hfin; have HLK := Lib.hid hlike; have HX5 := Lib.hid hx; have HG := Lib.hid hg; clear hfin hlike hx hg hos hall
        go_wp2
        go_ret
        exact ⟨g, a', rfl, Nat.le_trans (HXX.out.tr HE2.out).size HG.out, HFN.out, HLK.out, (HXX.out.tr HE2.out).tr HX5.out⟩
end Go.Proofs.YtedniebpabfglaaGreatDoor
