/- Words for memory that this seat's walks share: a slice that reads as a list of texts, and what is kept below a block's number. Plain theorems, of no program. -/
import Derived.WalkKit
import Derived.WalkSpells
import Derived.WalkLawsBesides
import Derived.Laws.EntriesVeiled
import Derived.Lib.Hide
import Derived.Deep.DeepMust
import Derived.Deep.DeepFit
import Derived.Deep.LoopGhost
import Derived.Deep.QuietTactic
import Derived.BigQuiet
import Derived.Deep.Draws
import Derived.Laws.OwnMore
import Derived.Maps.AppendAt
import Derived.Deep.AppendLies
import Derived.Laws.Rows
namespace Go.Proofs.YtedniebpabfglaaGreatDoor
open Go.RowKit

/-- From one world to a later one: what lay there lies there as it lay. -/
abbrev Ext (w w' : World) : Prop := Below w.heap.size w w'

theorem Ext.refl (w : World) : Ext w w := Below.refl _ _
theorem Ext.tr {a b c : World} (h : Ext a b) (k : Ext b c) : Ext a c := Below.trans h (k.mono h.size)
theorem Ext.drewN {a b : World} (h : Ext a b) (n : Nat) : Ext a (b.drewN n) := ⟨h.os, h.tape, h.output, h.size, h.block⟩
theorem Ext.drew {a b : World} (h : Ext a b) : Ext a b.drew := ⟨h.os, h.tape, h.output, h.size, h.block⟩
theorem Ext.alloc {a b : World} (h : Ext a b) (o : Obj) : Ext a (b.alloc o) := Below.alloc h h.size o
theorem Ext.cell {w w' : World} (h : Ext w w') {a : Addr} {v : Value} (hc : w.cell? a = some v) : w'.cell? a = some v :=
  (Below.cell h (World.block_lt_of_cell? w a hc)).trans hc

/-- A slice value that reads as these texts. -/
def RdS (w : World) (A : Option Addr) (n : Nat) (xs : List ByteArray) : Prop :=
  xs.length = n ∧ n ≤ 140737488355328 ∧ ∀ j, (h : j < xs.length) → ∃ ad, A = some ad ∧ w.cell? (ad.add j) = some (.string xs[j])
theorem RdS.ext {w w' : World} {A : Option Addr} {n : Nat} {xs : List ByteArray} (h : RdS w A n xs) (hx : Ext w w') : RdS w' A n xs :=
  ⟨h.1, h.2.1, fun j hj => by
    obtain ⟨ad, e, hc⟩ := h.2.2 j hj
    exact ⟨ad, e, hx.cell hc⟩⟩

/-- A text's bytes. -/
abbrev bl (s : ByteArray) : List UInt8 := s.data.toList
theorem bl_length (s : ByteArray) : (bl s).length = s.size := by unfold bl ByteArray.size; exact Array.length_toList
theorem bl_get (s : ByteArray) (k : Nat) (h : k < s.size) : (bl s)[k]'(by rw [bl_length]; exact h) = s[k] := rfl
theorem bl_extract (s : ByteArray) (a b : Nat) : bl (s.extract a b) = ((bl s).drop a).take (b - a) := by
  obtain ⟨⟨l⟩⟩ := s
  rw [ByteArray.extract_mk]

/-- A row of texts of the call's own reads as these texts. -/
theorem own_rdS {w : World} {base n : Nat} {e : TypeId} {v : Value} {xs : List ByteArray} (h : w.ownsRow base e 1 v n (xs.map .string)) (hn : n ≤ 140737488355328) : ∃ A c, v = .slice A n c ∧ RdS w A n xs := by
  have hl : xs.length = n := by have := h.1; simpa using this
  rcases Nat.eq_zero_or_pos n with h0 | h0
  · rcases h.2 with ⟨rfl, rfl⟩ | ⟨g, cap, cur, rfl, _⟩
    · exact ⟨none, 0, rfl, hl, hn, fun j hj => by omega⟩
    · exact ⟨_, cap, rfl, hl, hn, fun j hj => by omega⟩
  · obtain ⟨g, cap, rfl, _, _⟩ := h.form h0
    refine ⟨_, cap, rfl, hl, hn, fun j hj => ⟨_, rfl, h.cells (g := g) rfl j _ ?_⟩⟩
    simp [List.getElem?_eq_getElem hj]
theorem own_lo {w : World} {base : Nat} {e : TypeId} {size n : Nat} {v : Value} {xs : List Value} (h : w.ownsRow base e size v n xs) : ∀ k, v.ownBlock = some k → base ≤ k := by
  intro k hk
  rcases h.2 with ⟨rfl, _⟩ | ⟨g, cap, cur, rfl, hb, _⟩
  · simp [Value.ownBlock] at hk
  · have : g = k := by simpa [Value.ownBlock] using hk
    omega
theorem own_empty (w : World) (e : TypeId) : (w.alloc (.cells #[] e)).ownsRow w.heap.size e 1 (.slice (some ⟨w.heap.size, 0, none⟩) 0 0) 0 [] :=
  ⟨rfl, .inr ⟨w.heap.size, 0, #[], rfl, Nat.le_refl _, heap_alloc_new w _, Nat.le_refl _, by simp, rfl, rfl⟩⟩
theorem one_new (w : World) (u : Value) (e : TypeId) : ∀ (j : Nat) (x : Value), [u][j]? = some x → (w.alloc (.cells #[u] e)).cell? ((⟨w.heap.size, 0, none⟩ : Addr).add j) = some x := by
  intro j x hj
  match j, hj with
  | 0, hj => simp at hj; subst hj; simp [Addr.add]
theorem ret_tup2 {a b c d : Value} (h : a = c) (k : b = d) : Ending.returned (.tuple #[a, b]) = .returned (.tuple #[c, d]) := by rw [h, k]
theorem ret_bool {a b : Bool} (h : a = b) : Ending.returned (.bool a) = .returned (.bool b) := by rw [h]
end Go.Proofs.YtedniebpabfglaaGreatDoor
