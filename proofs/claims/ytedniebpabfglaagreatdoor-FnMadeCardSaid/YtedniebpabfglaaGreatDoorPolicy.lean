/- A policy as a value, and the blocks that hold such values. -/
import Derived.Test.YtedniebpabfglaaGreatDoorMailbox
namespace Go.Proofs.YtedniebpabfglaaGreatDoor
open Go.RowKit

/-- A block of which all cells are known; none is frozen. -/
def Blk (w : World) (g : Nat) (t : TypeId) (cs : Array Value) : Prop := w.heap[g]? = some (.cells cs t (0, 0))
theorem Blk.lt {w : World} {g : Nat} {t : TypeId} {cs : Array Value} (h : Blk w g t cs) : g < w.heap.size := by
  rcases Nat.lt_or_ge g w.heap.size with hlt | hge
  · exact hlt
  · unfold Blk at h; rw [Array.getElem?_eq_none hge] at h; cases h
theorem Blk.cell {w : World} {g : Nat} {t : TypeId} {cs : Array Value} (h : Blk w g t cs) (i : Nat) : w.cell? ⟨g, i, none⟩ = cs[i]? := cell_of_row w g i cs t (0, 0) h
theorem Blk.frozen {w : World} {g : Nat} {t : TypeId} {cs : Array Value} (h : Blk w g t cs) (i : Nat) : w.frozen? ⟨g, i, none⟩ = false := by
  unfold Blk at h
  simp [World.frozen?, h]
theorem Blk.new (w : World) (t : TypeId) (cs : Array Value) : Blk (w.alloc (.cells cs t)) w.heap.size t cs := heap_alloc_new w _
theorem Blk.ext {w w' : World} {g : Nat} {t : TypeId} {cs : Array Value} (h : Blk w g t cs) (hx : Ext w w') : Blk w' g t cs := (hx.block g h.lt).trans h
theorem Blk.drewN {w : World} {g : Nat} {t : TypeId} {cs : Array Value} (h : Blk w g t cs) (n : Nat) : Blk (w.drewN n) g t cs := h
theorem Blk.alloc {w : World} {g : Nat} {t : TypeId} {cs : Array Value} (h : Blk w g t cs) (o : Obj) : Blk (w.alloc o) g t cs := (Below.heap_alloc w o g h.lt).trans h
theorem Blk.set_ {w : World} {g : Nat} {t : TypeId} {cs : Array Value} (h : Blk w g t cs) (i : Nat) (u : Value) : Blk (w.setCell ⟨g, i, none⟩ u) g t (cs.setIfInBounds i u) := by
  unfold Blk at h ⊢
  simp [World.setCell, Array.getElem?_modify, h]
theorem Blk.far {w : World} {g : Nat} {t : TypeId} {cs : Array Value} (h : Blk w g t cs) {p : Addr} (hp : g ≠ p.block) (u : Value) : Blk (w.setCell p u) g t cs := (Below.heap_setCell w p u g hp).trans h

/-- A slice of texts: where it lies, and what it reads as. -/
structure Sl where
  A : Option Addr
  n : Nat
  c : Nat
  xs : List ByteArray
abbrev Sl.val (s : Sl) : Value := .slice s.A s.n s.c
def Sl.ok (w : World) (s : Sl) : Prop := RdS w s.A s.n s.xs ∧ ∀ x ∈ s.xs, x.size ≤ 2147483647
theorem Sl.ok.ext {w w' : World} {s : Sl} (h : s.ok w) (hx : Ext w w') : s.ok w' := ⟨h.1.ext hx, h.2⟩
/-- A policy. -/
structure Pol where
  dns : Sl
  ndns : Sl
  ip : Sl
  nip : Sl
  em : Sl
  nem : Sl
  uri : Sl
  nuri : Sl
  cn : Sl
  ncn : Sl
  pr : Sl
  npr : Sl
  lit : Bool
  ver : Bool
abbrev Pol.cells (q : Pol) : Array Value := #[q.dns.val, q.ndns.val, q.ip.val, q.nip.val, q.em.val, q.nem.val, q.uri.val, q.nuri.val, q.cn.val, q.ncn.val, q.pr.val, q.npr.val, .bool q.lit, .bool q.ver]
abbrev Pol.val (q : Pol) : Value := .agg q.cells
structure Pol.ok (w : World) (q : Pol) : Prop where
  dns : q.dns.ok w
  ndns : q.ndns.ok w
  ip : q.ip.ok w
  nip : q.nip.ok w
  em : q.em.ok w
  nem : q.nem.ok w
  uri : q.uri.ok w
  nuri : q.nuri.ok w
  cn : q.cn.ok w
  ncn : q.ncn.ok w
  pr : q.pr.ok w
  npr : q.npr.ok w
theorem Pol.ok.ext {w w' : World} {q : Pol} (h : q.ok w) (hx : Ext w w') : q.ok w' := ⟨h.dns.ext hx, h.ndns.ext hx, h.ip.ext hx, h.nip.ext hx, h.em.ext hx, h.nem.ext hx, h.uri.ext hx, h.nuri.ext hx, h.cn.ext hx, h.ncn.ext hx, h.pr.ext hx, h.npr.ext hx⟩

def areP (p : ByteArray → Bool) (xs : List ByteArray) : Bool := xs.all p && decide (xs.length ≤ 6)
def pDom (x : ByteArray) : Bool := Pl.isDomain (bl x)
def pRng (x : ByteArray) : Bool := Pl.isRange (bl x)
def pBox (x : ByteArray) : Bool := Pl.isMailbox (bl x)
def pNam (x : ByteArray) : Bool := Pl.isName (bl x)
def pPri (x : ByteArray) : Bool := (bl x == [42]) || Pl.okLab (bl x)
/-- Whether a policy's constraints are right. -/
def Pol.right (q : Pol) : Bool := areP pDom q.dns.xs && areP pDom q.ndns.xs && areP pRng q.ip.xs && areP pRng q.nip.xs && areP pBox q.em.xs && areP pBox q.nem.xs && areP pDom q.uri.xs && areP pDom q.nuri.xs && areP pNam q.cn.xs && areP pNam q.ncn.xs && areP pPri q.pr.xs && areP pPri q.npr.xs
end Go.Proofs.YtedniebpabfglaaGreatDoor
