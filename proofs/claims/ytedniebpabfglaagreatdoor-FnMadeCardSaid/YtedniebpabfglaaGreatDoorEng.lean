/- A policy engine in memory: its block, and what its fields read as. -/
import Derived.Test.YtedniebpabfglaaGreatDoorNormC
namespace Go.Proofs.YtedniebpabfglaaGreatDoor
open Go.RowKit

/-- A network: the bytes of its address and of its mask. -/
structure Net where
  ip : List UInt8
  mask : List UInt8
/-- What an engine holds. -/
structure AE where
  ver : Bool
  lit : Bool
  cn : List (List UInt8)
  ncn : List (List UInt8)
  dns : List (List UInt8)
  ndns : List (List UInt8)
  ip : List Net
  nip : List Net
  em : List (List UInt8)
  nem : List (List UInt8)
  uri : List (List UInt8)
  nuri : List (List UInt8)
  pr : List (List UInt8)
  npr : List (List UInt8)
/-- A slice of texts, away from block g. -/
def StrF (w : World) (g : Nat) (v : Value) (l : List (List UInt8)) : Prop :=
  ∃ A n c xs, v = .slice A n c ∧ RdS w A n xs ∧ xs.map bl = l ∧ (∀ x ∈ xs, x.size ≤ 2147483647) ∧ ∀ ad, A = some ad → 0 < n → ad.block ≠ g
/-- Bytes at an address, away from block g. -/
def BytF (w : World) (g : Nat) (v : Value) (l : List UInt8) : Prop :=
  ∃ b o c, v = .slice (some ⟨b, o, none⟩) l.length c ∧ l.length ≤ c ∧ b ≠ g ∧ ∀ j, j < l.length → w.cell? ⟨b, o + j, none⟩ = some (.int .u8 (fb l j))
/-- A network behind a pointer, away from block g. -/
def NetP (w : World) (g : Nat) (v : Value) (t : Net) : Prop :=
  ∃ b v0 v1, v = .pointer (some ⟨b, 0, none⟩) ∧ b ≠ g ∧ w.cell? ⟨b, 0, none⟩ = some v0 ∧ w.cell? ⟨b, 1, none⟩ = some v1 ∧ BytF w g v0 t.ip ∧ BytF w g v1 t.mask
/-- A slice of networks, away from block g. -/
def NetF (w : World) (g : Nat) (v : Value) (l : List Net) : Prop :=
  ∃ A c, v = .slice A l.length c ∧ l.length ≤ 140737488355328 ∧ ∀ j, (h : j < l.length) → ∃ ad u, A = some ad ∧ ad.block ≠ g ∧ w.cell? (ad.add j) = some u ∧ NetP w g u l[j]
theorem add_block (a : Addr) (n : Nat) : (a.add n).block = a.block := by unfold Addr.add; split <;> rfl
theorem StrF.ext {w w' : World} {g : Nat} {v : Value} {l : List (List UInt8)} (h : StrF w g v l) (hx : Ext w w') : StrF w' g v l := by
  obtain ⟨A, n, c, xs, h1, h2, h3⟩ := h
  exact ⟨A, n, c, xs, h1, h2.ext hx, h3⟩
theorem BytF.ext {w w' : World} {g : Nat} {v : Value} {l : List UInt8} (h : BytF w g v l) (hx : Ext w w') : BytF w' g v l := by
  obtain ⟨b, o, c, h1, h2, h3, h4⟩ := h
  exact ⟨b, o, c, h1, h2, h3, fun j hj => hx.cell (h4 j hj)⟩
theorem NetP.ext {w w' : World} {g : Nat} {v : Value} {t : Net} (h : NetP w g v t) (hx : Ext w w') : NetP w' g v t := by
  obtain ⟨b, v0, v1, h1, h2, h3, h4, h5, h6⟩ := h
  exact ⟨b, v0, v1, h1, h2, hx.cell h3, hx.cell h4, h5.ext hx, h6.ext hx⟩
theorem NetF.ext {w w' : World} {g : Nat} {v : Value} {l : List Net} (h : NetF w g v l) (hx : Ext w w') : NetF w' g v l := by
  obtain ⟨A, c, h1, h2, h3⟩ := h
  exact ⟨A, c, h1, h2, fun j hj => by
    obtain ⟨ad, u, e1, e2, e3, e4⟩ := h3 j hj
    exact ⟨ad, u, e1, e2, hx.cell e3, e4.ext hx⟩⟩
theorem StrF.set {w : World} {g : Nat} {v : Value} {l : List (List UInt8)} (h : StrF w g v l) (i : Nat) (u : Value) : StrF (w.setCell ⟨g, i, none⟩ u) g v l := by
  obtain ⟨A, n, c, xs, h1, h2, h3, h4, h5⟩ := h
  refine ⟨A, n, c, xs, h1, ⟨h2.1, h2.2.1, fun j hj => ?_⟩, h3, h4, h5⟩
  obtain ⟨ad, e, hc⟩ := h2.2.2 j hj
  refine ⟨ad, e, ?_⟩
  rw [World.cell?_setCell_other _ _ _ _ (fun h => h5 ad e (by rw [← h2.1]; omega) (by have := congrArg Addr.block h; rw [add_block] at this; exact this.symm))]
  exact hc
theorem BytF.set {w : World} {g : Nat} {v : Value} {l : List UInt8} (h : BytF w g v l) (i : Nat) (u : Value) : BytF (w.setCell ⟨g, i, none⟩ u) g v l := by
  obtain ⟨b, o, c, h1, h2, h3, h4⟩ := h
  exact ⟨b, o, c, h1, h2, h3, fun j hj => by rw [World.cell?_setCell_other _ _ _ _ (fun h => h3 (congrArg Addr.block h).symm)]; exact h4 j hj⟩
theorem NetP.set {w : World} {g : Nat} {v : Value} {t : Net} (h : NetP w g v t) (i : Nat) (u : Value) : NetP (w.setCell ⟨g, i, none⟩ u) g v t := by
  obtain ⟨b, v0, v1, h1, h2, h3, h4, h5, h6⟩ := h
  refine ⟨b, v0, v1, h1, h2, ?_, ?_, h5.set i u, h6.set i u⟩
  · rw [World.cell?_setCell_other _ _ _ _ (fun h => h2 (congrArg Addr.block h).symm)]; exact h3
  · rw [World.cell?_setCell_other _ _ _ _ (fun h => h2 (congrArg Addr.block h).symm)]; exact h4
theorem NetF.set {w : World} {g : Nat} {v : Value} {l : List Net} (h : NetF w g v l) (i : Nat) (u : Value) : NetF (w.setCell ⟨g, i, none⟩ u) g v l := by
  obtain ⟨A, c, h1, h2, h3⟩ := h
  refine ⟨A, c, h1, h2, fun j hj => ?_⟩
  obtain ⟨ad, x, e1, e2, e3, e4⟩ := h3 j hj
  refine ⟨ad, x, e1, e2, ?_, e4.set i u⟩
  rw [World.cell?_setCell_other _ _ _ _ (fun h => e2 (by have := congrArg Addr.block h; rw [add_block] at this; exact this.symm))]
  exact e3
theorem StrF.nil (w : World) (g : Nat) : StrF w g (.slice none 0 0) [] := ⟨none, 0, 0, [], rfl, ⟨rfl, by omega, fun j hj => by simp at hj⟩, rfl, by simp, fun ad h => by cases h⟩
theorem NetF.nil (w : World) (g : Nat) : NetF w g (.slice none 0 0) [] := ⟨none, 0, rfl, by simp, fun j hj => by simp at hj⟩

/-- The values of an engine's fields. -/
structure Eng where
  cn : Value
  ncn : Value
  dns : Value
  ndns : Value
  ip : Value
  nip : Value
  em : Value
  nem : Value
  uri : Value
  nuri : Value
  pr : Value
  npr : Value
  k1 : Int
  k2 : Int
  k3 : Int
  k4 : Int
  k5 : Int
  k6 : Int
  k7 : Int
  k8 : Int
  k9 : Int
abbrev Eng.cells (e : Eng) (a : AE) : Array Value := #[.bool a.ver, .bool a.lit, e.cn, e.ncn, e.dns, e.ndns, e.ip, e.nip, e.em, e.nem, e.uri, e.nuri, e.pr, e.npr, .int .i64 e.k1, .int .i64 e.k2, .int .i64 e.k3, .int .i64 e.k4, .int .i64 e.k5, .int .i64 e.k6, .int .i64 e.k7, .int .i64 e.k8, .int .i64 e.k9]
structure EngOK (w : World) (g : Nat) (a : AE) (e : Eng) : Prop where
  blk : Blk w g 58 (e.cells a)
  cn : StrF w g e.cn a.cn
  ncn : StrF w g e.ncn a.ncn
  dns : StrF w g e.dns a.dns
  ndns : StrF w g e.ndns a.ndns
  ip : NetF w g e.ip a.ip
  nip : NetF w g e.nip a.nip
  em : StrF w g e.em a.em
  nem : StrF w g e.nem a.nem
  uri : StrF w g e.uri a.uri
  nuri : StrF w g e.nuri a.nuri
  pr : StrF w g e.pr a.pr
  npr : StrF w g e.npr a.npr
theorem EngOK.ext {w w' : World} {g : Nat} {a : AE} {e : Eng} (h : EngOK w g a e) (hx : Ext w w') : EngOK w' g a e := ⟨h.blk.ext hx, h.cn.ext hx, h.ncn.ext hx, h.dns.ext hx, h.ndns.ext hx, h.ip.ext hx, h.nip.ext hx, h.em.ext hx, h.nem.ext hx, h.uri.ext hx, h.nuri.ext hx, h.pr.ext hx, h.npr.ext hx⟩
theorem EngOK.set_cn {w : World} {g : Nat} {a : AE} {e : Eng} (h : EngOK w g a e) (v : Value) (l : List (List UInt8)) (hv : StrF w g v l) : EngOK (w.setCell ⟨g, 2, none⟩ v) g { a with cn := l } { e with cn := v } :=
  ⟨h.blk.set_ 2 v, hv.set 2 v, h.ncn.set 2 v, h.dns.set 2 v, h.ndns.set 2 v, h.ip.set 2 v, h.nip.set 2 v, h.em.set 2 v, h.nem.set 2 v, h.uri.set 2 v, h.nuri.set 2 v, h.pr.set 2 v, h.npr.set 2 v⟩
theorem EngOK.set_ncn {w : World} {g : Nat} {a : AE} {e : Eng} (h : EngOK w g a e) (v : Value) (l : List (List UInt8)) (hv : StrF w g v l) : EngOK (w.setCell ⟨g, 3, none⟩ v) g { a with ncn := l } { e with ncn := v } :=
  ⟨h.blk.set_ 3 v, h.cn.set 3 v, hv.set 3 v, h.dns.set 3 v, h.ndns.set 3 v, h.ip.set 3 v, h.nip.set 3 v, h.em.set 3 v, h.nem.set 3 v, h.uri.set 3 v, h.nuri.set 3 v, h.pr.set 3 v, h.npr.set 3 v⟩
theorem EngOK.set_dns {w : World} {g : Nat} {a : AE} {e : Eng} (h : EngOK w g a e) (v : Value) (l : List (List UInt8)) (hv : StrF w g v l) : EngOK (w.setCell ⟨g, 4, none⟩ v) g { a with dns := l } { e with dns := v } :=
  ⟨h.blk.set_ 4 v, h.cn.set 4 v, h.ncn.set 4 v, hv.set 4 v, h.ndns.set 4 v, h.ip.set 4 v, h.nip.set 4 v, h.em.set 4 v, h.nem.set 4 v, h.uri.set 4 v, h.nuri.set 4 v, h.pr.set 4 v, h.npr.set 4 v⟩
theorem EngOK.set_ndns {w : World} {g : Nat} {a : AE} {e : Eng} (h : EngOK w g a e) (v : Value) (l : List (List UInt8)) (hv : StrF w g v l) : EngOK (w.setCell ⟨g, 5, none⟩ v) g { a with ndns := l } { e with ndns := v } :=
  ⟨h.blk.set_ 5 v, h.cn.set 5 v, h.ncn.set 5 v, h.dns.set 5 v, hv.set 5 v, h.ip.set 5 v, h.nip.set 5 v, h.em.set 5 v, h.nem.set 5 v, h.uri.set 5 v, h.nuri.set 5 v, h.pr.set 5 v, h.npr.set 5 v⟩
theorem EngOK.set_ip {w : World} {g : Nat} {a : AE} {e : Eng} (h : EngOK w g a e) (v : Value) (l : List Net) (hv : NetF w g v l) : EngOK (w.setCell ⟨g, 6, none⟩ v) g { a with ip := l } { e with ip := v } :=
  ⟨h.blk.set_ 6 v, h.cn.set 6 v, h.ncn.set 6 v, h.dns.set 6 v, h.ndns.set 6 v, hv.set 6 v, h.nip.set 6 v, h.em.set 6 v, h.nem.set 6 v, h.uri.set 6 v, h.nuri.set 6 v, h.pr.set 6 v, h.npr.set 6 v⟩
theorem EngOK.set_nip {w : World} {g : Nat} {a : AE} {e : Eng} (h : EngOK w g a e) (v : Value) (l : List Net) (hv : NetF w g v l) : EngOK (w.setCell ⟨g, 7, none⟩ v) g { a with nip := l } { e with nip := v } :=
  ⟨h.blk.set_ 7 v, h.cn.set 7 v, h.ncn.set 7 v, h.dns.set 7 v, h.ndns.set 7 v, h.ip.set 7 v, hv.set 7 v, h.em.set 7 v, h.nem.set 7 v, h.uri.set 7 v, h.nuri.set 7 v, h.pr.set 7 v, h.npr.set 7 v⟩
theorem EngOK.set_em {w : World} {g : Nat} {a : AE} {e : Eng} (h : EngOK w g a e) (v : Value) (l : List (List UInt8)) (hv : StrF w g v l) : EngOK (w.setCell ⟨g, 8, none⟩ v) g { a with em := l } { e with em := v } :=
  ⟨h.blk.set_ 8 v, h.cn.set 8 v, h.ncn.set 8 v, h.dns.set 8 v, h.ndns.set 8 v, h.ip.set 8 v, h.nip.set 8 v, hv.set 8 v, h.nem.set 8 v, h.uri.set 8 v, h.nuri.set 8 v, h.pr.set 8 v, h.npr.set 8 v⟩
theorem EngOK.set_nem {w : World} {g : Nat} {a : AE} {e : Eng} (h : EngOK w g a e) (v : Value) (l : List (List UInt8)) (hv : StrF w g v l) : EngOK (w.setCell ⟨g, 9, none⟩ v) g { a with nem := l } { e with nem := v } :=
  ⟨h.blk.set_ 9 v, h.cn.set 9 v, h.ncn.set 9 v, h.dns.set 9 v, h.ndns.set 9 v, h.ip.set 9 v, h.nip.set 9 v, h.em.set 9 v, hv.set 9 v, h.uri.set 9 v, h.nuri.set 9 v, h.pr.set 9 v, h.npr.set 9 v⟩
theorem EngOK.set_uri {w : World} {g : Nat} {a : AE} {e : Eng} (h : EngOK w g a e) (v : Value) (l : List (List UInt8)) (hv : StrF w g v l) : EngOK (w.setCell ⟨g, 10, none⟩ v) g { a with uri := l } { e with uri := v } :=
  ⟨h.blk.set_ 10 v, h.cn.set 10 v, h.ncn.set 10 v, h.dns.set 10 v, h.ndns.set 10 v, h.ip.set 10 v, h.nip.set 10 v, h.em.set 10 v, h.nem.set 10 v, hv.set 10 v, h.nuri.set 10 v, h.pr.set 10 v, h.npr.set 10 v⟩
theorem EngOK.set_nuri {w : World} {g : Nat} {a : AE} {e : Eng} (h : EngOK w g a e) (v : Value) (l : List (List UInt8)) (hv : StrF w g v l) : EngOK (w.setCell ⟨g, 11, none⟩ v) g { a with nuri := l } { e with nuri := v } :=
  ⟨h.blk.set_ 11 v, h.cn.set 11 v, h.ncn.set 11 v, h.dns.set 11 v, h.ndns.set 11 v, h.ip.set 11 v, h.nip.set 11 v, h.em.set 11 v, h.nem.set 11 v, h.uri.set 11 v, hv.set 11 v, h.pr.set 11 v, h.npr.set 11 v⟩
theorem EngOK.set_pr {w : World} {g : Nat} {a : AE} {e : Eng} (h : EngOK w g a e) (v : Value) (l : List (List UInt8)) (hv : StrF w g v l) : EngOK (w.setCell ⟨g, 12, none⟩ v) g { a with pr := l } { e with pr := v } :=
  ⟨h.blk.set_ 12 v, h.cn.set 12 v, h.ncn.set 12 v, h.dns.set 12 v, h.ndns.set 12 v, h.ip.set 12 v, h.nip.set 12 v, h.em.set 12 v, h.nem.set 12 v, h.uri.set 12 v, h.nuri.set 12 v, hv.set 12 v, h.npr.set 12 v⟩
theorem EngOK.set_npr {w : World} {g : Nat} {a : AE} {e : Eng} (h : EngOK w g a e) (v : Value) (l : List (List UInt8)) (hv : StrF w g v l) : EngOK (w.setCell ⟨g, 13, none⟩ v) g { a with npr := l } { e with npr := v } :=
  ⟨h.blk.set_ 13 v, h.cn.set 13 v, h.ncn.set 13 v, h.dns.set 13 v, h.ndns.set 13 v, h.ip.set 13 v, h.nip.set 13 v, h.em.set 13 v, h.nem.set 13 v, h.uri.set 13 v, h.nuri.set 13 v, h.pr.set 13 v, hv.set 13 v⟩
theorem EngOK.set_ver {w : World} {g : Nat} {a : AE} {e : Eng} (h : EngOK w g a e) (b : Bool) : EngOK (w.setCell ⟨g, 0, none⟩ (.bool b)) g { a with ver := b } e :=
  ⟨h.blk.set_ 0 _, h.cn.set 0 _, h.ncn.set 0 _, h.dns.set 0 _, h.ndns.set 0 _, h.ip.set 0 _, h.nip.set 0 _, h.em.set 0 _, h.nem.set 0 _, h.uri.set 0 _, h.nuri.set 0 _, h.pr.set 0 _, h.npr.set 0 _⟩
theorem EngOK.set_lit {w : World} {g : Nat} {a : AE} {e : Eng} (h : EngOK w g a e) (b : Bool) : EngOK (w.setCell ⟨g, 1, none⟩ (.bool b)) g { a with lit := b } e :=
  ⟨h.blk.set_ 1 _, h.cn.set 1 _, h.ncn.set 1 _, h.dns.set 1 _, h.ndns.set 1 _, h.ip.set 1 _, h.nip.set 1 _, h.em.set 1 _, h.nem.set 1 _, h.uri.set 1 _, h.nuri.set 1 _, h.pr.set 1 _, h.npr.set 1 _⟩
def EngIs (w : World) (g : Nat) (a : AE) : Prop := ∃ e, EngOK w g a e
theorem EngIs.ext {w w' : World} {g : Nat} {a : AE} (h : EngIs w g a) (hx : Ext w w') : EngIs w' g a := by
  obtain ⟨e, he⟩ := h
  exact ⟨e, he.ext hx⟩
/-- Only block g has turned, and what is new. -/
abbrev KeepG (g : Nat) (w w' : World) : Prop := w.grownBy w' (some g)
theorem KeepG.of_ext {g : Nat} {w w' : World} (h : Ext w w') : KeepG g w w' := ⟨h.os, h.tape, h.output, h.size, fun i hi _ => h.block i hi⟩
theorem KeepG.set {g : Nat} {w w' : World} (h : KeepG g w w') (i : Nat) (u : Value) : KeepG g w (w'.setCell ⟨g, i, none⟩ u) :=
  ⟨h.os, h.tape, h.output, by simpa [World.setCell] using h.size, fun k hk hne => (Below.heap_setCell w' ⟨g, i, none⟩ u k (fun e => hne (by rw [e]))).trans (h.block k hk hne)⟩
/-- From a world in which block g did not yet lie. -/
theorem KeepG.old {g : Nat} {w0 w w' : World} (h0 : Ext w0 w) (hg : w0.heap.size ≤ g) (h : KeepG g w w') : Ext w0 w' :=
  ⟨h.os.trans h0.os, h.tape.trans h0.tape, h.output.trans h0.output, Nat.le_trans h0.size h.size, fun k hk => (h.block k (Nat.lt_of_lt_of_le hk h0.size) (by intro e; injection e with e; omega)).trans (h0.block k hk)⟩
end Go.Proofs.YtedniebpabfglaaGreatDoor
