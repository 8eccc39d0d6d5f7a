/- The engine of a policy that speaks of DNS names and common names alone. -/
import Derived.Test.YtnefafkdfcmmfaaGreatDoorDns
import Derived.Test.YtnefafkdfcmmfaaGreatDoorPlain5
namespace Go.Proofs.YtnefafkdfcmmfaaGreatDoor
open Go.RowKit

theorem fine_of {x : ByteArray} (h : Pl.DomN (bl x)) : fineT x := by
  have h2 := Pl.domN_fine h
  refine ⟨by rw [← bl_length]; omega, fun j hj => ?_⟩
  have := h2.2 (bl x)[j] (List.getElem_mem (by rw [bl_length]; exact hj))
  rw [bl_get x j hj] at this
  exact this
/-- The engine. -/
def engOf (q : Pol) : AE := { ver := q.ver, lit := q.lit, cn := q.cn.xs.map fun x => Pl.small (bl x), ncn := q.ncn.xs.map fun x => Pl.small (bl x), dns := q.dns.xs.map fun x => Pl.normD (bl x), ndns := q.ndns.xs.map fun x => Pl.normD (bl x), ip := [], nip := [], em := [], nem := [], uri := [], nuri := [], pr := [], npr := [] }
/-- A policy that speaks of DNS names and common names alone. -/
structure Std (q : Pol) : Prop where
  dns : ∀ x ∈ q.dns.xs, Pl.isDomain (bl x) = true
  ndns : ∀ x ∈ q.ndns.xs, Pl.isDomain (bl x) = true
  cn : ∀ x ∈ q.cn.xs, Pl.isName (bl x) = true
  ncn : ∀ x ∈ q.ncn.xs, Pl.isName (bl x) = true
  fdns : q.dns.n ≤ 20
  fndns : q.ndns.n ≤ 20
  fcn : q.cn.n ≤ 20
  fncn : q.ncn.n ≤ 20
  ip : q.ip.xs = [] ∧ q.ip.n = 0
  nip : q.nip.xs = [] ∧ q.nip.n = 0
  em : q.em.xs = [] ∧ q.em.n = 0
  nem : q.nem.xs = [] ∧ q.nem.n = 0
  uri : q.uri.xs = [] ∧ q.uri.n = 0
  nuri : q.nuri.xs = [] ∧ q.nuri.n = 0
  pr : q.pr.xs = [] ∧ q.pr.n = 0
  npr : q.npr.xs = [] ∧ q.npr.n = 0
/-- What its options do. -/
def updOf (q : Pol) : Upd := { dns := fun a => { a with dns := q.dns.xs.map fun x => Pl.normD (bl x) }, ndns := fun a => { a with ndns := q.ndns.xs.map fun x => Pl.normD (bl x) }, ip := fun a => { a with ip := [] }, nip := fun a => { a with nip := [] }, em := fun a => { a with em := [] }, nem := fun a => { a with nem := [] }, uri := fun a => { a with uri := [] }, nuri := fun a => { a with nuri := [] }, cn := fun a => { a with cn := q.cn.xs.map fun x => Pl.small (bl x) }, ncn := fun a => { a with ncn := q.ncn.xs.map fun x => Pl.small (bl x) }, pr := fun a => { a with pr := [] }, npr := fun a => { a with npr := [] } }
theorem opts_std (q : Pol) : optsOf ((updOf q).all q.lit q.ver) = engOf q := by
  unfold optsOf Upd.all engOf
  cases q.lit <;> cases q.ver <;> rfl
theorem small_len (l : List UInt8) : (Pl.small l).length = l.length := by rw [Pl.small, List.length_map]
theorem std_opts (q : Pol) (w : World) (hq : q.ok w) (hs : Std q) (ht : SpTab w) : PolOpts w q (updOf q) where
  dns := optfor_dns w q.dns.xs Pl.normD (fun x hx => by have := (Pl.normD_con (hs.dns x hx)).2; omega) (fun x hx w' hw' => NormD_any x w' (hq.dns.2 x hx) (ht.ext hw') (hs.dns x hx))
  ndns := optfor_ndns w q.ndns.xs Pl.normD (fun x hx => by have := (Pl.normD_con (hs.ndns x hx)).2; omega) (fun x hx w' hw' => NormD_any x w' (hq.ndns.2 x hx) (ht.ext hw') (hs.ndns x hx))
  ip := by rw [hs.ip.1]; exact optfor_ip w
  nip := by rw [hs.nip.1]; exact optfor_nip w
  em := by rw [hs.em.1]; exact optfor_em w [] id (by simp) (by simp)
  nem := by rw [hs.nem.1]; exact optfor_nem w [] id (by simp) (by simp)
  uri := by rw [hs.uri.1]; exact optfor_uri w [] id (by simp) (by simp)
  nuri := by rw [hs.nuri.1]; exact optfor_nuri w [] id (by simp) (by simp)
  cn := optfor_cn w q.cn.xs Pl.small (fun x hx => by rw [small_len, bl_length]; exact hq.cn.2 x hx) (fun x hx w' hw' => NormC_any x w' (hq.cn.2 x hx) (ht.ext hw') (hs.cn x hx))
  ncn := optfor_ncn w q.ncn.xs Pl.small (fun x hx => by rw [small_len, bl_length]; exact hq.ncn.2 x hx) (fun x hx w' hw' => NormC_any x w' (hq.ncn.2 x hx) (ht.ext hw') (hs.ncn x hx))
  pr := by rw [hs.pr.1]; exact optfor_pr w []
  npr := by rw [hs.npr.1]; exact optfor_npr w []
theorem std_fine (q : Pol) (hs : Std q) : q.fine where
  dns := ⟨hs.fdns, fun x hx => fine_of (Pl.isDomain_DomN (hs.dns x hx))⟩
  ndns := ⟨hs.fndns, fun x hx => fine_of (Pl.isDomain_DomN (hs.ndns x hx))⟩
  ip := ⟨by rw [hs.ip.2]; omega, fun x hx => by rw [hs.ip.1] at hx; simp at hx⟩
  nip := ⟨by rw [hs.nip.2]; omega, fun x hx => by rw [hs.nip.1] at hx; simp at hx⟩
  em := ⟨by rw [hs.em.2]; omega, fun x hx => by rw [hs.em.1] at hx; simp at hx⟩
  nem := ⟨by rw [hs.nem.2]; omega, fun x hx => by rw [hs.nem.1] at hx; simp at hx⟩
  uri := ⟨by rw [hs.uri.2]; omega, fun x hx => by rw [hs.uri.1] at hx; simp at hx⟩
  nuri := ⟨by rw [hs.nuri.2]; omega, fun x hx => by rw [hs.nuri.1] at hx; simp at hx⟩
  cn := ⟨hs.fcn, fun x hx => fine_of (.inl (hs.cn x hx))⟩
  ncn := ⟨hs.fncn, fun x hx => fine_of (.inl (hs.ncn x hx))⟩
  pr := ⟨by rw [hs.pr.2]; omega, fun x hx => by rw [hs.pr.1] at hx; simp at hx⟩
  npr := ⟨by rw [hs.npr.2]; omega, fun x hx => by rw [hs.npr.1] at hx; simp at hx⟩
theorem std_few (q : Pol) (w : World) (hq : q.ok w) (hs : Std q) : (engOf q).few := by
  have h1 := hq.cn.1.1; have h2 := hq.ncn.1.1; have h3 := hq.dns.1.1; have h4 := hq.ndns.1.1
  have := hs.fcn; have := hs.fncn; have := hs.fdns; have := hs.fndns
  unfold AE.few engOf
  simp only [List.length_map, List.length_nil]
  omega
theorem made_std (q : Pol) (w : World) (hq : q.ok w) (hs : Std q) (ht : SpTab w) : Calls Tryz.prog 27 #[q.val] w (MadePost w (engOf q)) := by
  have h := made_any q (updOf q) w hq (std_fine q hs) (std_opts q w hq hs ht) (by rw [opts_std]; exact std_few q w hq hs) (fun g v w' l hl hn => dupn_one g v l w' hn (by
    rw [opts_std] at hl
    rcases hl with rfl | rfl <;> simp [engOf]))
  rw [opts_std] at h
  exact h
theorem engOf_con {q : Pol} (hs : Std q) : ∀ c, c ∈ (engOf q).dns ∨ c ∈ (engOf q).ndns → Pl.ConN c ∧ c.length ≤ 1000 := by
  intro c hc
  rcases hc with hc | hc
  · obtain ⟨x, hx, rfl⟩ := List.mem_map.1 hc
    have := Pl.normD_con (hs.dns x hx)
    exact ⟨this.1, by omega⟩
  · obtain ⟨x, hx, rfl⟩ := List.mem_map.1 hc
    have := Pl.normD_con (hs.ndns x hx)
    exact ⟨this.1, by omega⟩
theorem DNS_std (q : Pol) (x : ByteArray) (w : World) (hq : q.ok w) (hs : Std q) (ht : SpTab w) (hne : q.dns.xs ≠ []) (hx : Pl.DomN (bl x)) :
    Calls Tryz.prog 12 #[q.val, .string x] w (fun e w' => e = .returned (.tuple #[.bool (dnsOk (engOf q) (bl x)), .int .i64 (numOf (dnsOk (engOf q) (bl x)) 1), .int .i64 (numOf (dnsOk (engOf q) (bl x)) 2)]) ∧ Ext w w') :=
  DNS_any q (engOf q) x w (fun w' hw' => made_std q w' (hq.ext hw') hs (ht.ext hw')) (by simpa [engOf] using hne) hx (fine_of hx) (engOf_con hs)
end Go.Proofs.YtnefafkdfcmmfaaGreatDoor
