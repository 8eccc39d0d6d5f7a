/- The engine of any right policy, and the walk of made at such a policy. -/
import Derived.Test.YtedniebpabfglaaGreatDoorMade
import Derived.Test.YtedniebpabfglaaGreatDoorPlain6
import Derived.Test.YtedniebpabfglaaGreatDoorNormU
import Derived.Test.YtedniebpabfglaaGreatDoorNet
namespace Go.Proofs.YtedniebpabfglaaGreatDoor
open Go.RowKit

theorem fine_get {x : ByteArray} (h : (bl x).length ≤ 120 ∧ ∀ c ∈ bl x, c.toNat < 128 ∧ c.toNat ≠ 45) : fineT x := by
  refine ⟨by rw [← bl_length]; exact h.1, fun j hj => ?_⟩
  have := h.2 (bl x)[j] (List.getElem_mem (by rw [bl_length]; exact hj))
  rw [bl_get x j hj] at this
  exact this
theorem fine_dom {x : ByteArray} (h : pDom x = true) : fineT x := by
  have h2 := Pl.domN_fine (Pl.isDomain_DomN h)
  exact fine_get ⟨by omega, h2.2⟩
theorem fine_nam {x : ByteArray} (h : pNam x = true) : fineT x := by
  have h2 := Pl.domN_fine (.inl h)
  exact fine_get ⟨by omega, h2.2⟩
theorem fine_rng {x : ByteArray} (h : pRng x = true) : fineT x := fine_get (Pl.range_fine h)
theorem fine_box {x : ByteArray} (h : pBox x = true) : fineT x := fine_get (Pl.box_fine h)
theorem fine_pri {x : ByteArray} (h : pPri x = true) : fineT x := by
  unfold pPri at h
  simp only [Bool.or_eq_true, beq_iff_eq] at h
  rcases h with h | h
  · refine fine_get ⟨by rw [h]; decide, fun c hc => ?_⟩
    rw [h] at hc
    obtain rfl : c = 42 := by simpa using hc
    decide
  · exact fine_get (Pl.lab_fine h)
/-- A right policy, kind by kind. -/
structure RightQ (q : Pol) : Prop where
  dns : (∀ x ∈ q.dns.xs, pDom x = true) ∧ q.dns.xs.length ≤ 6
  ndns : (∀ x ∈ q.ndns.xs, pDom x = true) ∧ q.ndns.xs.length ≤ 6
  ip : (∀ x ∈ q.ip.xs, pRng x = true) ∧ q.ip.xs.length ≤ 6
  nip : (∀ x ∈ q.nip.xs, pRng x = true) ∧ q.nip.xs.length ≤ 6
  em : (∀ x ∈ q.em.xs, pBox x = true) ∧ q.em.xs.length ≤ 6
  nem : (∀ x ∈ q.nem.xs, pBox x = true) ∧ q.nem.xs.length ≤ 6
  uri : (∀ x ∈ q.uri.xs, pDom x = true) ∧ q.uri.xs.length ≤ 6
  nuri : (∀ x ∈ q.nuri.xs, pDom x = true) ∧ q.nuri.xs.length ≤ 6
  cn : (∀ x ∈ q.cn.xs, pNam x = true) ∧ q.cn.xs.length ≤ 6
  ncn : (∀ x ∈ q.ncn.xs, pNam x = true) ∧ q.ncn.xs.length ≤ 6
  pr : (∀ x ∈ q.pr.xs, pPri x = true) ∧ q.pr.xs.length ≤ 6
  npr : (∀ x ∈ q.npr.xs, pPri x = true) ∧ q.npr.xs.length ≤ 6
theorem areP_parts {p : ByteArray → Bool} {xs : List ByteArray} (h : areP p xs = true) : (∀ x ∈ xs, p x = true) ∧ xs.length ≤ 6 := by
  unfold areP at h
  simp only [Bool.and_eq_true, List.all_eq_true, decide_eq_true_eq] at h
  exact h
theorem right_get {q : Pol} (h : q.right = true) : RightQ q := by
  unfold Pol.right at h
  simp only [Bool.and_eq_true] at h
  obtain ⟨⟨⟨⟨⟨⟨⟨⟨⟨⟨⟨h0, h1⟩, h2⟩, h3⟩, h4⟩, h5⟩, h6⟩, h7⟩, h8⟩, h9⟩, h10⟩, h11⟩ := h
  exact ⟨areP_parts h0, areP_parts h1, areP_parts h2, areP_parts h3, areP_parts h4, areP_parts h5, areP_parts h6, areP_parts h7, areP_parts h8, areP_parts h9, areP_parts h10, areP_parts h11⟩
/-- The engine. -/
def engAll (q : Pol) : AE := { ver := q.ver, lit := q.lit, cn := q.cn.xs.map fun x => Pl.small (bl x), ncn := q.ncn.xs.map fun x => Pl.small (bl x), dns := q.dns.xs.map fun x => Pl.normD (bl x), ndns := q.ndns.xs.map fun x => Pl.normD (bl x), ip := q.ip.xs.map fun x => netOf (bl x), nip := q.nip.xs.map fun x => netOf (bl x), em := q.em.xs.map fun x => Pl.normE (bl x), nem := q.nem.xs.map fun x => Pl.normE (bl x), uri := q.uri.xs.map fun x => Pl.normD (bl x), nuri := q.nuri.xs.map fun x => Pl.normD (bl x), pr := q.pr.xs.map bl, npr := q.npr.xs.map bl }
/-- What its options do. -/
def updAll (q : Pol) : Upd := { dns := fun a => { a with dns := q.dns.xs.map fun x => Pl.normD (bl x) }, ndns := fun a => { a with ndns := q.ndns.xs.map fun x => Pl.normD (bl x) }, ip := fun a => { a with ip := q.ip.xs.map fun x => netOf (bl x) }, nip := fun a => { a with nip := q.nip.xs.map fun x => netOf (bl x) }, em := fun a => { a with em := q.em.xs.map fun x => Pl.normE (bl x) }, nem := fun a => { a with nem := q.nem.xs.map fun x => Pl.normE (bl x) }, uri := fun a => { a with uri := q.uri.xs.map fun x => Pl.normD (bl x) }, nuri := fun a => { a with nuri := q.nuri.xs.map fun x => Pl.normD (bl x) }, cn := fun a => { a with cn := q.cn.xs.map fun x => Pl.small (bl x) }, ncn := fun a => { a with ncn := q.ncn.xs.map fun x => Pl.small (bl x) }, pr := fun a => { a with pr := q.pr.xs.map bl }, npr := fun a => { a with npr := q.npr.xs.map bl } }
theorem opts_all (q : Pol) : optsOf ((updAll q).all q.lit q.ver) = engAll q := by
  unfold optsOf Upd.all engAll
  cases q.lit <;> cases q.ver <;> rfl
theorem small_ln (l : List UInt8) : (Pl.small l).length = l.length := by rw [Pl.small, List.length_map]
set_option maxRecDepth 100000 in
theorem all_opts (zb zo pb po pc : Nat) (q : Pol) (w : World) (hq : q.ok w) (hs : RightQ q) (ht : SpTab w) (hi : IpTab zb zo pb po pc w) : PolOpts w q (updAll q) where
  dns := optfor_dns w q.dns.xs Pl.normD (fun x hx => by have := (Pl.normD_con (hs.dns.1 x hx)).2; omega) (fun x hx w' hw' => NormD_any x w' (hq.dns.2 x hx) (ht.ext hw') (hs.dns.1 x hx))
  ndns := optfor_ndns w q.ndns.xs Pl.normD (fun x hx => by have := (Pl.normD_con (hs.ndns.1 x hx)).2; omega) (fun x hx w' hw' => NormD_any x w' (hq.ndns.2 x hx) (ht.ext hw') (hs.ndns.1 x hx))
  ip := optfor_ip_any zb zo pb po pc w q.ip.xs hs.ip.1 hi
  nip := optfor_nip_any zb zo pb po pc w q.nip.xs hs.nip.1 hi
  em := optfor_em w q.em.xs Pl.normE (fun x hx => Nat.le_trans (Pl.normE_len _) (by rw [bl_length]; exact hq.em.2 x hx)) (fun x hx w' hw' => NormE_any x w' (ht.ext hw') (hs.em.1 x hx))
  nem := optfor_nem w q.nem.xs Pl.normE (fun x hx => Nat.le_trans (Pl.normE_len _) (by rw [bl_length]; exact hq.nem.2 x hx)) (fun x hx w' hw' => NormE_any x w' (ht.ext hw') (hs.nem.1 x hx))
  uri := optfor_uri w q.uri.xs Pl.normD (fun x hx => by have := (Pl.normD_con (hs.uri.1 x hx)).2; omega) (fun x hx w' hw' => NormU_any x w' (hq.uri.2 x hx) (ht.ext hw') (hs.uri.1 x hx))
  nuri := optfor_nuri w q.nuri.xs Pl.normD (fun x hx => by have := (Pl.normD_con (hs.nuri.1 x hx)).2; omega) (fun x hx w' hw' => NormU_any x w' (hq.nuri.2 x hx) (ht.ext hw') (hs.nuri.1 x hx))
  cn := optfor_cn w q.cn.xs Pl.small (fun x hx => by rw [small_ln, bl_length]; exact hq.cn.2 x hx) (fun x hx w' hw' => NormC_any x w' (hq.cn.2 x hx) (ht.ext hw') (hs.cn.1 x hx))
  ncn := optfor_ncn w q.ncn.xs Pl.small (fun x hx => by rw [small_ln, bl_length]; exact hq.ncn.2 x hx) (fun x hx w' hw' => NormC_any x w' (hq.ncn.2 x hx) (ht.ext hw') (hs.ncn.1 x hx))
  pr := optfor_pr w q.pr.xs
  npr := optfor_npr w q.npr.xs
theorem all_fine (q : Pol) (w : World) (hq : q.ok w) (hs : RightQ q) : q.fine where
  dns := ⟨by have := hq.dns.1.1; have := hs.dns.2; omega, fun x hx => fine_dom (hs.dns.1 x hx)⟩
  ndns := ⟨by have := hq.ndns.1.1; have := hs.ndns.2; omega, fun x hx => fine_dom (hs.ndns.1 x hx)⟩
  ip := ⟨by have := hq.ip.1.1; have := hs.ip.2; omega, fun x hx => fine_rng (hs.ip.1 x hx)⟩
  nip := ⟨by have := hq.nip.1.1; have := hs.nip.2; omega, fun x hx => fine_rng (hs.nip.1 x hx)⟩
  em := ⟨by have := hq.em.1.1; have := hs.em.2; omega, fun x hx => fine_box (hs.em.1 x hx)⟩
  nem := ⟨by have := hq.nem.1.1; have := hs.nem.2; omega, fun x hx => fine_box (hs.nem.1 x hx)⟩
  uri := ⟨by have := hq.uri.1.1; have := hs.uri.2; omega, fun x hx => fine_dom (hs.uri.1 x hx)⟩
  nuri := ⟨by have := hq.nuri.1.1; have := hs.nuri.2; omega, fun x hx => fine_dom (hs.nuri.1 x hx)⟩
  cn := ⟨by have := hq.cn.1.1; have := hs.cn.2; omega, fun x hx => fine_nam (hs.cn.1 x hx)⟩
  ncn := ⟨by have := hq.ncn.1.1; have := hs.ncn.2; omega, fun x hx => fine_nam (hs.ncn.1 x hx)⟩
  pr := ⟨by have := hq.pr.1.1; have := hs.pr.2; omega, fun x hx => fine_pri (hs.pr.1 x hx)⟩
  npr := ⟨by have := hq.npr.1.1; have := hs.npr.2; omega, fun x hx => fine_pri (hs.npr.1 x hx)⟩
theorem all_few (q : Pol) (hs : RightQ q) : (engAll q).few := by
  have h_dns := hs.dns.2
  have h_ndns := hs.ndns.2
  have h_ip := hs.ip.2
  have h_nip := hs.nip.2
  have h_em := hs.em.2
  have h_nem := hs.nem.2
  have h_uri := hs.uri.2
  have h_nuri := hs.nuri.2
  have h_cn := hs.cn.2
  have h_ncn := hs.ncn.2
  have h_pr := hs.pr.2
  have h_npr := hs.npr.2
  unfold AE.few engAll
  simp only [List.length_map]
  omega
theorem nets_good {xs : List ByteArray} (h : ∀ x ∈ xs, pRng x = true) : ∀ t ∈ (xs.map fun x => netOf (bl x)), NetGood t := by
  intro t ht
  obtain ⟨x, hx, rfl⟩ := List.mem_map.1 ht
  exact netOf_good (h x hx)
theorem made_full (zb zo pb po pc : Nat) (q : Pol) (w : World) (hq : q.ok w) (hr : q.right = true) (ht : SpTab w) (hi : IpTab zb zo pb po pc w) : Calls Tryz.prog 16 #[q.val] w (MadePost w (engAll q)) := by
  have hs := right_get hr
  have h := made_any q (updAll q) w hq (all_fine q w hq hs) (all_opts zb zo pb po pc q w hq hs ht hi) (by rw [opts_all]; exact all_few q hs) (fun g v w' l hx hg hl hn => dupn_any zb zo pb po pc g v l w' hg (hi.ext hx) hn (by
      rw [opts_all] at hl
      have hf := all_few q hs
      rcases hl with rfl | rfl
      · exact hf.ip
      · exact hf.nip) (by
      rw [opts_all] at hl
      rcases hl with rfl | rfl
      · exact nets_good hs.ip.1
      · exact nets_good hs.nip.1))
  rw [opts_all] at h
  exact h
end Go.Proofs.YtedniebpabfglaaGreatDoor
