/- The walks of netip.appendDecimal, v4, appendTo4, AppendTo, AddrFromSlice; of IP.appendTo and IP.String at four bytes. The walks of netip.AppendTo, AddrFromSlice; of IP.appendTo and IP.String at four bytes. The walks of net.simpleMaskLength at masks of ones alone, of networkNumberAndMask and of IPNet.String. -/
import Derived.Test.YtedniebpabfglaaGreatDoorIp
import Derived.Test.YtedniebpabfglaaGreatDoorNames2
import Derived.Laws.Cover3
section
namespace Go.Proofs.YtedniebpabfglaaGreatDoor
open Go.RowKit

/-- Bytes of a row of the call's own. -/
def OwnB (base : Nat) (w : World) (v : Value) (l : List UInt8) : Prop := w.ownsRow base 5 1 v l.length (bys l)
theorem OwnB.snoc {base : Nat} {w : World} {v : Value} {l : List UInt8} {x : UInt8} (h : w.ownsRow base 5 1 v (l.length + 1) (bys l ++ [.int .u8 (x.toNat : Int)])) : OwnB base w v (l ++ [x]) := by
  unfold OwnB
  rw [bys_snoc, List.length_append]
  exact h
theorem OwnB.alloc {base : Nat} {w : World} {v : Value} {l : List UInt8} (h : OwnB base w v l) (o : Obj) : (w.alloc o).ownsRow base 5 1 v l.length (bys l) := World.ownsRow.alloc h o
theorem OwnB.ext {base : Nat} {w w' : World} {v : Value} {l : List UInt8} (h : OwnB base w v l) (hx : Ext w w') : OwnB base w' v l := own_ext h hx
theorem OwnB.blk {base : Nat} {w : World} {v : Value} {l : List UInt8} (h : OwnB base w v l) : ∀ g, v.ownBlock = some g → base ≤ g ∧ ∃ cs, w.heap[g]? = some (.cells cs 5 (0, 0)) := by
  intro g hg
  rcases h.2 with ⟨rfl, _⟩ | ⟨k, cap, cur, rfl, h4, h5, _⟩
  · simp [Value.ownBlock] at hg
  · obtain rfl : k = g := by simpa [Value.ownBlock] using hg
    exact ⟨h4, cur, h5⟩
/-- What is kept: whatever lies below the base, and whatever is no row of bytes. -/
structure KeepB (base : Nat) (w w' : World) : Prop where
  os : w'.os = w.os
  tape : w'.tape = w.tape
  output : w'.output = w.output
  size : w.heap.size ≤ w'.heap.size
  block : ∀ i, i < w.heap.size → (i < base ∨ ∀ cs, w.heap[i]? ≠ some (.cells cs 5 (0, 0))) → w'.heap[i]? = w.heap[i]?
theorem KeepB.of_ext {base : Nat} {w w' : World} (h : Ext w w') : KeepB base w w' := ⟨h.os, h.tape, h.output, h.size, fun i hi _ => h.block i hi⟩
theorem KeepB.refl (base : Nat) (w : World) : KeepB base w w := .of_ext (Ext.refl w)
theorem KeepB.tr {base : Nat} {a b c : World} (h : KeepB base a b) (k : KeepB base b c) : KeepB base a c :=
  ⟨k.os.trans h.os, k.tape.trans h.tape, k.output.trans h.output, Nat.le_trans h.size k.size, fun i hi hc => by
    have e := h.block i hi hc
    exact (k.block i (Nat.lt_of_lt_of_le hi h.size) (by rw [e]; exact hc)).trans e⟩
theorem KeepB.grown {base : Nat} {a b c : World} {v : Value} {l : List UInt8} (h : KeepB base a b) (o : Obj) (hv : OwnB base b v l) (hg : (b.alloc o).grownBy c v.ownBlock) : KeepB base a c := by
  refine h.tr ((KeepB.of_ext ((Ext.refl b).alloc o)).tr ⟨hg.os, hg.tape, hg.output, hg.size, fun i hi hc => hg.block i hi ?_⟩)
  intro e
  obtain ⟨h1, cs, h2⟩ := OwnB.blk (hv.alloc o) i e.symm
  rcases hc with hc | hc
  · omega
  · exact hc cs h2
theorem KeepB.below {base : Nat} {w w' : World} (h : KeepB base w w') (hb : base ≤ w.heap.size) : Below base w w' := ⟨h.os, h.tape, h.output, h.size, fun i hi => h.block i (by omega) (.inl hi)⟩
theorem KeepB.old {base : Nat} {w0 w w' : World} (h0 : Ext w0 w) (hb : w0.heap.size ≤ base) (h : KeepB base w w') : Ext w0 w' :=
  ⟨h.os.trans h0.os, h.tape.trans h0.tape, h.output.trans h0.output, Nat.le_trans h0.size h.size, fun i hi => (h.block i (Nat.lt_of_lt_of_le hi h0.size) (.inl (by omega))).trans (h0.block i hi)⟩
theorem Blk.keep {base : Nat} {w w' : World} {g : Nat} {t : TypeId} {cs : Array Value} (h : Blk w g t cs) (ht : t ≠ 5) (k : KeepB base w w') : Blk w' g t cs :=
  (k.block g h.lt (.inr fun cs' e => by
    have e2 : some (Obj.cells cs t (0, 0)) = some (.cells cs' 5 (0, 0)) := h.symm.trans e
    injection e2 with e2; injection e2 with _ e3 _
    exact ht e3)).trans h
set_option maxHeartbeats 4000000 in
set_option maxRecDepth 100000 in
theorem appDec_any (base : Nat) (v : Value) (l : List UInt8) (x : Nat) (w : World) (hx : x < 256) (hb : base ≤ w.heap.size) (hown : OwnB base w v l) (hl : l.length ≤ 1000) :
    Calls Tryz.prog 159 #[v, .int .u8 (x : Nat)] w (fun e w' => ∃ v' l', e = .returned v' ∧ OwnB base w' v' l' ∧ l.length < l'.length ∧ l'.length ≤ l.length + 3 ∧ KeepB base w w') := by
  obtain ⟨i0, hi, hz0, hz1, hz2⟩ := info_parts info_u8
  obtain ⟨Av, cv, rfl⟩ := own_slice hown
  have HO := Lib.hid hown; clear hown
  have e10 : (0 : Int) ≤ (x : Int) % 10 ∧ (x : Int) % 10 < 16 := by omega
  have e11 : (0 : Int) ≤ (x : Int) / 10 % 10 ∧ (x : Int) / 10 % 10 < 16 := by omega
  by_cases h1 : 100 ≤ (x : Int)
  · have h2 : 10 ≤ (x : Int) := by omega
    have hd : (x : Int) / 100 < 16 := by omega
    have hd0 : (0 : Int) ≤ (x : Int) / 100 := by omega
    go_enter Tryz.func159, Tryz.ntmps159
    go_wp2_with (first
      | (at_builtin; refine wpList_append_own _ rfl _ _ 53 rfl base 5 i0 (.int .u8 0) 1 1 Tryz.underlying53 hi hz0 hz1 hz2 rfl (by decide) (Value.slice Av l.length cv) _ _ rfl (HO.out.alloc _) ⟨_, 0, none⟩ 1 1 [.int .u8 _] rfl rfl (one_new _ _ _) (by intro u hu; simp at hu; subst hu; rfl) (by unfold maxLen; first | omega | (simp; omega)) (by first | omega | (simp; omega)) (by have := (KeepB.refl base w).size; simp; omega) ?_; intro v1 w1 hown1 hgrow1 _; have HB1 := Lib.hid (KeepB.grown (KeepB.refl base w) _ HO.out hgrow1); obtain ⟨c1, HO1⟩ : ∃ c, Hid (OwnB base w1 v1 (l ++ [c])) := ⟨_, OwnB.snoc hown1⟩; clear hown1 hgrow1)
      | (at_builtin; refine wpList_append_own _ rfl _ _ 53 rfl base 5 i0 (.int .u8 0) 1 1 Tryz.underlying53 hi hz0 hz1 hz2 rfl (by decide) v1 _ _ rfl (HO1.out.alloc _) ⟨_, 0, none⟩ 1 1 [.int .u8 _] rfl rfl (one_new _ _ _) (by intro u hu; simp at hu; subst hu; rfl) (by unfold maxLen; first | omega | (simp; omega)) (by first | omega | (simp; omega)) (by have := HB1.out.size; simp; omega) ?_; intro v2 w2 hown2 hgrow2 _; have HB2 := Lib.hid (KeepB.grown HB1.out _ HO1.out hgrow2); obtain ⟨c2, HO2⟩ : ∃ c, Hid (OwnB base w2 v2 ((l ++ [c1]) ++ [c])) := ⟨_, OwnB.snoc hown2⟩; clear hown2 hgrow2)
      | (at_builtin; refine wpList_append_own _ rfl _ _ 53 rfl base 5 i0 (.int .u8 0) 1 1 Tryz.underlying53 hi hz0 hz1 hz2 rfl (by decide) v2 _ _ rfl (HO2.out.alloc _) ⟨_, 0, none⟩ 1 1 [.int .u8 _] rfl rfl (one_new _ _ _) (by intro u hu; simp at hu; subst hu; rfl) (by unfold maxLen; first | omega | (simp; omega)) (by first | omega | (simp; omega)) (by have := HB2.out.size; simp; omega) ?_; intro v3 w3 hown3 hgrow3 _; have HB3 := Lib.hid (KeepB.grown HB2.out _ HO2.out hgrow3); obtain ⟨c3, HO3⟩ : ∃ c, Hid (OwnB base w3 v3 (((l ++ [c1]) ++ [c2]) ++ [c])) := ⟨_, OwnB.snoc hown3⟩; clear hown3 hgrow3))
    go_ret
    first | exact ⟨_, _, rfl, HO3.out, by simp, by simp, HB3.out⟩ | exact ⟨_, rfl, _, HO3.out, by simp, by simp, HB3.out⟩
  · by_cases h2 : 10 ≤ (x : Int)
    · go_enter Tryz.func159, Tryz.ntmps159
      go_wp2_with (first
        | (at_builtin; refine wpList_append_own _ rfl _ _ 53 rfl base 5 i0 (.int .u8 0) 1 1 Tryz.underlying53 hi hz0 hz1 hz2 rfl (by decide) (Value.slice Av l.length cv) _ _ rfl (HO.out.alloc _) ⟨_, 0, none⟩ 1 1 [.int .u8 _] rfl rfl (one_new _ _ _) (by intro u hu; simp at hu; subst hu; rfl) (by unfold maxLen; first | omega | (simp; omega)) (by first | omega | (simp; omega)) (by have := (KeepB.refl base w).size; simp; omega) ?_; intro v1 w1 hown1 hgrow1 _; have HB1 := Lib.hid (KeepB.grown (KeepB.refl base w) _ HO.out hgrow1); obtain ⟨c1, HO1⟩ : ∃ c, Hid (OwnB base w1 v1 (l ++ [c])) := ⟨_, OwnB.snoc hown1⟩; clear hown1 hgrow1)
        | (at_builtin; refine wpList_append_own _ rfl _ _ 53 rfl base 5 i0 (.int .u8 0) 1 1 Tryz.underlying53 hi hz0 hz1 hz2 rfl (by decide) v1 _ _ rfl (HO1.out.alloc _) ⟨_, 0, none⟩ 1 1 [.int .u8 _] rfl rfl (one_new _ _ _) (by intro u hu; simp at hu; subst hu; rfl) (by unfold maxLen; first | omega | (simp; omega)) (by first | omega | (simp; omega)) (by have := HB1.out.size; simp; omega) ?_; intro v2 w2 hown2 hgrow2 _; have HB2 := Lib.hid (KeepB.grown HB1.out _ HO1.out hgrow2); obtain ⟨c2, HO2⟩ : ∃ c, Hid (OwnB base w2 v2 ((l ++ [c1]) ++ [c])) := ⟨_, OwnB.snoc hown2⟩; clear hown2 hgrow2))
      go_ret
      first | exact ⟨_, _, rfl, HO2.out, by simp, by simp, HB2.out⟩ | exact ⟨_, rfl, _, HO2.out, by simp, by simp, HB2.out⟩
    · go_enter Tryz.func159, Tryz.ntmps159
      go_wp2_with (first
        | (at_builtin; refine wpList_append_own _ rfl _ _ 53 rfl base 5 i0 (.int .u8 0) 1 1 Tryz.underlying53 hi hz0 hz1 hz2 rfl (by decide) (Value.slice Av l.length cv) _ _ rfl (HO.out.alloc _) ⟨_, 0, none⟩ 1 1 [.int .u8 _] rfl rfl (one_new _ _ _) (by intro u hu; simp at hu; subst hu; rfl) (by unfold maxLen; first | omega | (simp; omega)) (by first | omega | (simp; omega)) (by have := (KeepB.refl base w).size; simp; omega) ?_; intro v1 w1 hown1 hgrow1 _; have HB1 := Lib.hid (KeepB.grown (KeepB.refl base w) _ HO.out hgrow1); obtain ⟨c1, HO1⟩ : ∃ c, Hid (OwnB base w1 v1 (l ++ [c])) := ⟨_, OwnB.snoc hown1⟩; clear hown1 hgrow1))
      go_ret
      first | exact ⟨_, _, rfl, HO1.out, by simp, by simp, HB1.out⟩ | exact ⟨_, rfl, _, HO1.out, by simp, by simp, HB1.out⟩
set_option maxHeartbeats 4000000 in
set_option maxRecDepth 100000 in
theorem v4_any (zb zo v i : Nat) (w : World) (hi : i < 4) :
    Calls Tryz.prog 160 #[addr4 zb zo v, .int .u8 (i : Nat)] w (fun e w' => (∃ x : Nat, x < 256 ∧ e = .returned (.int .u8 (x : Nat))) ∧ Ext w w') := by
  go_enter Tryz.func160, Tryz.ntmps160
  go_wp2
  go_ret
  exact ⟨⟨v / 2 ^ ((3 - i) * 8) % 256, Nat.mod_lt _ (by omega), by simp⟩, (Ext.refl w).alloc _⟩
set_option maxHeartbeats 8000000 in
set_option maxRecDepth 100000 in
theorem appTo4_any (zb zo x base : Nat) (v : Value) (l : List UInt8) (w : World) (hb : base ≤ w.heap.size) (hown : OwnB base w v l) (hl : l.length ≤ 100) :
    Calls Tryz.prog 150 #[addr4 zb zo x, v] w (fun e w' => ∃ v' l', e = .returned v' ∧ OwnB base w' v' l' ∧ l.length < l'.length ∧ l'.length ≤ l.length + 15 ∧ KeepB base w w') := by
  obtain ⟨i0, hi, hz0, hz1, hz2⟩ := info_parts info_u8
  have HK0 : Hid (KeepB base w (w.alloc (.cells #[.int .u64 0, .int .u64 (x : Nat), .pointer (some ⟨zb, zo, none⟩)] 77))) := .of_ext ((Ext.refl w).alloc _)
  have HB0 : Hid (Blk (w.alloc (.cells #[.int .u64 0, .int .u64 (x : Nat), .pointer (some ⟨zb, zo, none⟩)] 77)) w.heap.size 77 #[.int .u64 0, .int .u64 (x : Nat), .pointer (some ⟨zb, zo, none⟩)]) := Blk.new _ _ _
  have HO0 : Hid (OwnB base (w.alloc (.cells #[.int .u64 0, .int .u64 (x : Nat), .pointer (some ⟨zb, zo, none⟩)] 77)) v l) := hown.ext ((Ext.refl w).alloc _)
  clear hown
  obtain ⟨l0, hl0⟩ : ∃ k, k = l := ⟨_, rfl⟩
  rw [← hl0] at HO0 hl
  have hll : l.length = l0.length := by rw [hl0]
  go_enter Tryz.func150, Tryz.ntmps150
  have q0 := HB0.out.cell 0
  have q1 := HB0.out.cell 1
  have q2 := HB0.out.cell 2
  go_wp2_with fail
  refine (v4_any zb zo x 0 _ (by decide)).mono ?_
  rintro e y0 ⟨⟨x0, hx0, rfl⟩, hy0⟩
  have HKY0 : Hid (KeepB base w y0) := HK0.out.tr (.of_ext hy0)
  have HBY0 := Lib.hid (HB0.out.ext hy0)
  have HOY0 := Lib.hid (HO0.out.ext hy0)
  clear hy0 q0 q1 q2
  go_wp2_with fail
  refine (appDec_any base v l0 x0 _ hx0 (by have := HKY0.out.size; omega) HOY0.out (by omega)).mono ?_
  rintro e w1 ⟨v1, l1, rfl, ho, hln0, hlx0, hk⟩
  have HK1 := Lib.hid (HKY0.out.tr hk)
  have HB1 := Lib.hid (HBY0.out.keep (by decide) hk)
  have HO1 := Lib.hid ho
  clear ho hk
  go_wp2_with (at_builtin; refine wpList_append_own _ rfl _ _ 53 rfl base 5 i0 (.int .u8 0) 1 1 Tryz.underlying53 hi hz0 hz1 hz2 rfl (by decide) v1 _ _ rfl (HO1.out.alloc _) ⟨_, 0, none⟩ 1 1 [.int .u8 46] rfl rfl (one_new _ _ _) (by intro u hu; simp at hu; subst hu; rfl) (by unfold maxLen; omega) (by omega) (by have := HK1.out.size; simp; omega) ?_; intro v2 w2 hown hgrow _; have HK2 := Lib.hid (KeepB.grown HK1.out _ HO1.out hgrow); have HB2 := Lib.hid (HB1.out.keep (by decide) (KeepB.grown (KeepB.refl base w1) _ HO1.out hgrow)); obtain ⟨l2, HL2, HO2⟩ : ∃ l2 : List UInt8, l2.length = l1.length + 1 ∧ Hid (OwnB base w2 v2 l2) := ⟨l1 ++ [46], by simp, OwnB.snoc (x := 46) hown⟩; clear hown hgrow; have q0 := HB2.out.cell 0; have q1 := HB2.out.cell 1; have q2 := HB2.out.cell 2)
  refine (v4_any zb zo x 1 _ (by decide)).mono ?_
  rintro e y1 ⟨⟨x1, hx1, rfl⟩, hy1⟩
  have HKY1 : Hid (KeepB base w y1) := HK2.out.tr (.of_ext hy1)
  have HBY1 := Lib.hid (HB2.out.ext hy1)
  have HOY1 := Lib.hid (HO2.out.ext hy1)
  clear hy1 q0 q1 q2
  go_wp2_with fail
  refine (appDec_any base v2 l2 x1 _ hx1 (by have := HKY1.out.size; omega) HOY1.out (by omega)).mono ?_
  rintro e w3 ⟨v3, l3, rfl, ho, hln1, hlx1, hk⟩
  have HK3 := Lib.hid (HKY1.out.tr hk)
  have HB3 := Lib.hid (HBY1.out.keep (by decide) hk)
  have HO3 := Lib.hid ho
  clear ho hk
  go_wp2_with (at_builtin; refine wpList_append_own _ rfl _ _ 53 rfl base 5 i0 (.int .u8 0) 1 1 Tryz.underlying53 hi hz0 hz1 hz2 rfl (by decide) v3 _ _ rfl (HO3.out.alloc _) ⟨_, 0, none⟩ 1 1 [.int .u8 46] rfl rfl (one_new _ _ _) (by intro u hu; simp at hu; subst hu; rfl) (by unfold maxLen; omega) (by omega) (by have := HK3.out.size; simp; omega) ?_; intro v4 w4 hown hgrow _; have HK4 := Lib.hid (KeepB.grown HK3.out _ HO3.out hgrow); have HB4 := Lib.hid (HB3.out.keep (by decide) (KeepB.grown (KeepB.refl base w3) _ HO3.out hgrow)); obtain ⟨l4, HL4, HO4⟩ : ∃ l2 : List UInt8, l2.length = l3.length + 1 ∧ Hid (OwnB base w4 v4 l2) := ⟨l3 ++ [46], by simp, OwnB.snoc (x := 46) hown⟩; clear hown hgrow; have q0 := HB4.out.cell 0; have q1 := HB4.out.cell 1; have q2 := HB4.out.cell 2)
  refine (v4_any zb zo x 2 _ (by decide)).mono ?_
  rintro e y2 ⟨⟨x2, hx2, rfl⟩, hy2⟩
  have HKY2 : Hid (KeepB base w y2) := HK4.out.tr (.of_ext hy2)
  have HBY2 := Lib.hid (HB4.out.ext hy2)
  have HOY2 := Lib.hid (HO4.out.ext hy2)
  clear hy2 q0 q1 q2
  go_wp2_with fail
  refine (appDec_any base v4 l4 x2 _ hx2 (by have := HKY2.out.size; omega) HOY2.out (by omega)).mono ?_
  rintro e w5 ⟨v5, l5, rfl, ho, hln2, hlx2, hk⟩
  have HK5 := Lib.hid (HKY2.out.tr hk)
  have HB5 := Lib.hid (HBY2.out.keep (by decide) hk)
  have HO5 := Lib.hid ho
  clear ho hk
  go_wp2_with (at_builtin; refine wpList_append_own _ rfl _ _ 53 rfl base 5 i0 (.int .u8 0) 1 1 Tryz.underlying53 hi hz0 hz1 hz2 rfl (by decide) v5 _ _ rfl (HO5.out.alloc _) ⟨_, 0, none⟩ 1 1 [.int .u8 46] rfl rfl (one_new _ _ _) (by intro u hu; simp at hu; subst hu; rfl) (by unfold maxLen; omega) (by omega) (by have := HK5.out.size; simp; omega) ?_; intro v6 w6 hown hgrow _; have HK6 := Lib.hid (KeepB.grown HK5.out _ HO5.out hgrow); have HB6 := Lib.hid (HB5.out.keep (by decide) (KeepB.grown (KeepB.refl base w5) _ HO5.out hgrow)); obtain ⟨l6, HL6, HO6⟩ : ∃ l2 : List UInt8, l2.length = l5.length + 1 ∧ Hid (OwnB base w6 v6 l2) := ⟨l5 ++ [46], by simp, OwnB.snoc (x := 46) hown⟩; clear hown hgrow; have q0 := HB6.out.cell 0; have q1 := HB6.out.cell 1; have q2 := HB6.out.cell 2)
  refine (v4_any zb zo x 3 _ (by decide)).mono ?_
  rintro e y3 ⟨⟨x3, hx3, rfl⟩, hy3⟩
  have HKY3 : Hid (KeepB base w y3) := HK6.out.tr (.of_ext hy3)
  have HBY3 := Lib.hid (HB6.out.ext hy3)
  have HOY3 := Lib.hid (HO6.out.ext hy3)
  clear hy3 q0 q1 q2
  go_wp2_with fail
  refine (appDec_any base v6 l6 x3 _ hx3 (by have := HKY3.out.size; omega) HOY3.out (by omega)).mono ?_
  rintro e w7 ⟨v7, l7, rfl, ho, hln3, hlx3, hk⟩
  have HK7 := Lib.hid (HKY3.out.tr hk)
  have HB7 := Lib.hid (HBY3.out.keep (by decide) hk)
  have HO7 := Lib.hid ho
  clear ho hk
  go_wp2
  go_ret
  first | exact ⟨_, _, rfl, HO7.out, by omega, by omega, HK7.out⟩ | exact ⟨_, rfl, _, HO7.out, by omega, by omega, HK7.out⟩
end Go.Proofs.YtedniebpabfglaaGreatDoor
end
section
namespace Go.Proofs.YtedniebpabfglaaGreatDoor
open Go.RowKit

set_option maxHeartbeats 8000000 in
set_option maxRecDepth 100000 in
theorem AppendTo_4 (zb zo pb po pc x base : Nat) (v : Value) (l : List UInt8) (w : World) (ht : IpTab zb zo pb po pc w) (hb : base ≤ w.heap.size) (hown : OwnB base w v l) (hl : l.length ≤ 100) :
    Calls Tryz.prog 141 #[addr4 zb zo x, v] w (fun e w' => ∃ v' l', e = .returned v' ∧ OwnB base w' v' l' ∧ l.length < l'.length ∧ l'.length ≤ l.length + 15 ∧ KeepB base w w') := by
  have HX : Hid (Ext w (w.alloc (.cells #[.int .u64 0, .int .u64 (x : Nat), .pointer (some ⟨zb, zo, none⟩)] 77))) := (Ext.refl w).alloc _
  have hz0 := (ht.ext HX.out).z0
  have he0 := eq_ptr_none ⟨zb, zo, none⟩ (w.alloc (.cells #[.int .u64 0, .int .u64 (x : Nat), .pointer (some ⟨zb, zo, none⟩)] 77))
  have he1 := eq_ptr_same ⟨zb, zo, none⟩ (w.alloc (.cells #[.int .u64 0, .int .u64 (x : Nat), .pointer (some ⟨zb, zo, none⟩)] 77))
  have hz4 := (ht.ext HX.out).z4
  have HO := Lib.hid hown
  clear hown ht
  go_enter Tryz.func141, Tryz.ntmps141
  go_wp2_with fail
  refine (appTo4_any zb zo x base v l _ (Nat.le_trans hb HX.out.size) (HO.out.ext HX.out) hl).mono ?_
  rintro e w2 ⟨v2, l2, rfl, ho, h1, h2, hk⟩
  have HO2 := Lib.hid ho; have HK2 := Lib.hid ((KeepB.of_ext HX.out).tr hk)
  clear ho hk hz0 he0 he1 hz4
  go_wp2
  go_ret
  first | exact ⟨_, _, rfl, HO2.out, h1, h2, HK2.out⟩ | exact ⟨_, rfl, _, HO2.out, h1, h2, HK2.out⟩
set_option maxHeartbeats 8000000 in
set_option maxRecDepth 100000 in
theorem AddrFromSlice_4 (zb zo pb po pc g o c : Nat) (x : Nat → Nat) (w : World) (ht : IpTab zb zo pb po pc w) (hx : ∀ j, j < 4 → x j < 256 ∧ w.cell? ⟨g, o + j, none⟩ = some (.int .u8 (x j : Nat))) :
    Calls Tryz.prog 140 #[.slice (some ⟨g, o, none⟩) 4 c] w (fun e w' => (∃ n : Nat, e = .returned (.tuple #[addr4 zb zo n, .bool true])) ∧ Ext w w') := by
  have HX0 : Hid (Ext w (w.alloc (.cells #[.int .u64 0, .int .u64 0, .pointer none] 77))) := (Ext.refl w).alloc _
  have HB0 : Hid (Blk (w.alloc (.cells #[.int .u64 0, .int .u64 0, .pointer none] 77)) w.heap.size 77 #[.int .u64 0, .int .u64 0, .pointer none]) := Blk.new _ _ _
  have HT := Lib.hid ht
  have HXX := Lib.hid hx
  have q0 : (w.alloc (.cells #[.int .u64 0, .int .u64 0, .pointer none] 77)).cell? ⟨g, o, none⟩ = some (.int .u8 (x 0 : Nat)) := HX0.out.cell (hx 0 (by omega)).2
  have q1 : (w.alloc (.cells #[.int .u64 0, .int .u64 0, .pointer none] 77)).cell? ⟨g, o + 1, none⟩ = some (.int .u8 (x 1 : Nat)) := HX0.out.cell (hx 1 (by omega)).2
  have q2 : (w.alloc (.cells #[.int .u64 0, .int .u64 0, .pointer none] 77)).cell? ⟨g, o + 2, none⟩ = some (.int .u8 (x 2 : Nat)) := HX0.out.cell (hx 2 (by omega)).2
  have q3 : (w.alloc (.cells #[.int .u64 0, .int .u64 0, .pointer none] 77)).cell? ⟨g, o + 3, none⟩ = some (.int .u8 (x 3 : Nat)) := HX0.out.cell (hx 3 (by omega)).2
  have hat : ∀ w, (Instr.arrayAt 143 (.slice (some ⟨g, o, none⟩) 4 c)).run Tryz.prog w = .ok (.pointer (some ⟨g, o, none⟩)) w := fun w => run_arrayAt w 143 _ 4 _ 4 c Tryz.underlying143 (Nat.le_refl _)
  clear ht hx
  go_enter Tryz.func140, Tryz.ntmps140
  go_wp2_with fail
  refine (AddrFrom4_any zb zo pb po pc (x 0) (x 1) (x 2) (x 3) _ (HXX.out 0 (by omega)).1 (HXX.out 1 (by omega)).1 (HXX.out 2 (by omega)).1 (HXX.out 3 (by omega)).1 (HT.out.ext HX0.out)).mono ?_
  rintro e w3 ⟨rfl, hb3⟩
  obtain ⟨v, hv⟩ : ∃ v, v = 281470681743360 + (x 0 * 16777216 + x 1 * 65536 + x 2 * 256 + x 3) := ⟨_, rfl⟩
  rw [← hv]
  clear hv
  have HX3 := Lib.hid (HX0.out.tr hb3)
  have HB3 := Lib.hid (HB0.out.ext hb3)
  clear hb3 q0 q1 q2 q3
  have q0 := HB3.out.cell 0
  have q1 := HB3.out.cell 1
  have q2 := HB3.out.cell 2
  have f0 := HB3.out.frozen 0
  have f1 := HB3.out.frozen 1
  have f2 := HB3.out.frozen 2
  have HE : Hid (Blk (((w3.setCell ⟨w.heap.size, 0, none⟩ (.int .u64 0)).setCell ⟨w.heap.size, 1, none⟩ (.int .u64 (v : Nat))).setCell ⟨w.heap.size, 2, none⟩ (.pointer (some ⟨zb, zo, none⟩))) w.heap.size 77 #[.int .u64 0, .int .u64 (v : Nat), .pointer (some ⟨zb, zo, none⟩)]) := ((HB3.out.set_ 0 _).set_ 1 _).set_ 2 _
  have HXE : Hid (Ext w (((w3.setCell ⟨w.heap.size, 0, none⟩ (.int .u64 0)).setCell ⟨w.heap.size, 1, none⟩ (.int .u64 (v : Nat))).setCell ⟨w.heap.size, 2, none⟩ (.pointer (some ⟨zb, zo, none⟩)))) :=
    Below.setCell (Below.setCell (Below.setCell HX3.out (Nat.le_refl _) _) (Nat.le_refl _) _) (Nat.le_refl _) _
  go_wp2
  have r0 := HE.out.cell 0
  have r1 := HE.out.cell 1
  have r2 := HE.out.cell 2
  generalize (((w3.setCell ⟨w.heap.size, 0, none⟩ (.int .u64 0)).setCell ⟨w.heap.size, 1, none⟩ (.int .u64 (v : Nat))).setCell ⟨w.heap.size, 2, none⟩ (.pointer (some ⟨zb, zo, none⟩))) = wE at HXE r0 r1 r2 ⊢
  refine bodyPost_ret (v := .tuple #[addr4 zb zo v, .bool true]) (by simp [results, Tryz.results140, go_sem, r0, r1, r2]) rfl ⟨⟨v, rfl⟩, HXE.out⟩
set_option maxHeartbeats 8000000 in
set_option maxRecDepth 100000 in
theorem ipAppendTo_4 (zb zo pb po pc g o c base : Nat) (x : Nat → Nat) (v : Value) (l : List UInt8) (w : World) (ht : IpTab zb zo pb po pc w) (hx : ∀ j, j < 4 → x j < 256 ∧ w.cell? ⟨g, o + j, none⟩ = some (.int .u8 (x j : Nat))) (hb : base ≤ w.heap.size) (hown : OwnB base w v l) (hl : l.length ≤ 100) :
    Calls Tryz.prog 126 #[.slice (some ⟨g, o, none⟩) 4 c, v] w (fun e w' => ∃ v' l', e = .returned v' ∧ OwnB base w' v' l' ∧ l.length < l'.length ∧ l'.length ≤ l.length + 15 ∧ KeepB base w w') := by
  have HT := Lib.hid ht; have HX := Lib.hid hx; have HO := Lib.hid hown
  clear ht hx hown
  go_enter Tryz.func126, Tryz.ntmps126
  go_wp2_with fail
  refine (To4_four g o c _).mono ?_
  rintro e wq ⟨rfl, rfl⟩
  go_wp2_with fail
  refine (AddrFromSlice_4 zb zo pb po pc g o c x _ HT.out HX.out).mono ?_
  rintro e w2 ⟨⟨n, rfl⟩, hb2⟩
  have HX2 := Lib.hid hb2
  clear hb2
  have HX3 : Hid (Ext wq (w2.alloc (.cells #[.int .u64 0, .int .u64 (n : Nat), .pointer (some ⟨zb, zo, none⟩)] 77))) := HX2.out.alloc _
  go_wp2_with fail
  refine (AppendTo_4 zb zo pb po pc n base v l _ (HT.out.ext HX3.out) (Nat.le_trans hb HX3.out.size) (HO.out.ext HX3.out) hl).mono ?_
  rintro e w4 ⟨v2, l2, rfl, ho, h1, h2, hk⟩
  have HO2 := Lib.hid ho; have HK2 := Lib.hid ((KeepB.of_ext HX3.out).tr hk)
  clear ho hk
  go_wp2
  go_ret
  first | exact ⟨_, _, rfl, HO2.out, h1, h2, HK2.out⟩ | exact ⟨_, rfl, _, HO2.out, h1, h2, HK2.out⟩
set_option maxHeartbeats 8000000 in
set_option maxRecDepth 100000 in
theorem ipString_4 (zb zo pb po pc g o c : Nat) (x : Nat → Nat) (w : World) (ht : IpTab zb zo pb po pc w) (hx : ∀ j, j < 4 → x j < 256 ∧ w.cell? ⟨g, o + j, none⟩ = some (.int .u8 (x j : Nat))) :
    Calls Tryz.prog 106 #[.slice (some ⟨g, o, none⟩) 4 c] w (fun e w' => (∃ s : ByteArray, e = .returned (.string s) ∧ s.size ≤ 15) ∧ Ext w w') := by
  have HT := Lib.hid ht; have HX := Lib.hid hx
  obtain ⟨i0, hi, hz0, hz1, hz2⟩ := info_parts info_u8
  clear ht hx
  go_enter Tryz.func106, Tryz.ntmps106
  go_wp2_with (at_make; (refine wpList_make_own _ rfl _ _ 53 rfl w.heap.size 5 i0 (.int .u8 0) 1 Tryz.underlying53 hi hz0 hz1 .i64 .i64 15 15 rfl rfl rfl (by rw [hz2]; omega) (by unfold maxLen; omega) (by simp) ?_; intro w1 hown hgrow; have HX1 := Lib.hid (ext_none hgrow); have HO1 := Lib.hid hown; clear hown hgrow))
  refine (ipAppendTo_4 zb zo pb po pc g o c w.heap.size x _ [] w1 (HT.out.ext HX1.out) (fun j hj => ⟨(HX.out j hj).1, HX1.out.cell (HX.out j hj).2⟩) HX1.out.size HO1.out (by simp)).mono ?_
  rintro e w2 ⟨v2, l2, rfl, ho, h1, h2, hk⟩
  simp only [List.length_nil, Nat.zero_add] at h1 h2
  obtain ⟨gg, cap, rfl, hcap, hcm⟩ := World.ownsRow.form ho h1
  have HX2 : Hid (Ext w w2) := KeepB.old HX1.out (Nat.le_refl _) hk
  have HC := Lib.hid (own_bytes ho)
  clear ho hk
  have hcv := run_convert_bytes_arg (P := Tryz.prog) w2 53 5 Tryz.underlying53 Tryz.underlying5 gg 0 l2.length cap (l2.map fun c => (c.toNat : Int)) (by rw [List.length_map]) (fun i hi => by
    rw [Nat.zero_add, HC.out i hi, fb_at l2 i hi]
    simp [List.getD_eq_getElem?_getD, List.getElem?_eq_getElem (show i < l2.length by omega)]) 9 Tryz.underlying9
  rw [strOfNums_mk] at hcv
  have hsz : (mk l2).size ≤ 15 := by rw [size_mk]; exact h2
  generalize mk l2 = S at hcv hsz
  go_wp2
  go_ret
  exact ⟨⟨S, rfl, hsz⟩, HX2.out⟩
end Go.Proofs.YtedniebpabfglaaGreatDoor
end
section
namespace Go.Proofs.YtedniebpabfglaaGreatDoor
open Go.RowKit

theorem mb_small (r : Nat) (h : r < 8) : mb r ≠ 255 := by
  have : r = 0 ∨ r = 1 ∨ r = 2 ∨ r = 3 ∨ r = 4 ∨ r = 5 ∨ r = 6 ∨ r = 7 := by omega
  rcases this with rfl | rfl | rfl | rfl | rfl | rfl | rfl | rfl <;> decide
set_option maxHeartbeats 8000000 in
set_option maxRecDepth 100000 in
theorem simpleMask_c (m mo c n : Nat) (w : World) (hn : n ≤ 32) (hc : ∀ j, j < 4 → w.cell? ⟨m, mo + j, none⟩ = some (.int .u8 (mb (n - 8 * j) : Nat))) :
    Calls Tryz.prog 105 #[.slice (some ⟨m, mo, none⟩) 4 c] w (fun e w' => e = .returned (.int .i64 (n : Nat)) ∧ Ext w w') := by
  have HC := Lib.hid hc; clear hc
  go_enter Tryz.func105, Tryz.ntmps105
  go_wp2
  go_loop [3, 4, 5, 8] (fun a _ _ i => ∃ k : Nat, a = .int .i64 (8 * k : Nat) ∧ i = .int .i64 k ∧ k ≤ 4 ∧ 8 * k ≤ n) (fun _ _ _ i => 4 - (intOf i).toNat)
  case atStart => exact ⟨0, rfl, rfl, by omega, by omega⟩
  case round =>
    obtain ⟨k, rfl, rfl, hk, hkn⟩ := hrel
    by_cases hlt : k < 4
    · have hck := HC.out k hlt
      by_cases h8 : 8 ≤ n - 8 * k
      · have e : mb (n - 8 * k) = 255 := by unfold mb; rw [if_pos h8]
        rw [e] at hck
        go_wp2
        go_round
        case rel => exact ⟨k + 1, by go_num, by go_num, by omega, by omega⟩
        case measure => simp [intOf]; omega
      · obtain ⟨r, hr⟩ : ∃ r, r = n - 8 * k := ⟨_, rfl⟩
        have hr8 : r < 8 := by omega
        have hne : (((mb r : Nat) : Int) == 255) = false := by rw [beq_eq_false_iff_ne]; have := mb_small r hr8; omega
        rw [← hr] at hck
        have HR := Lib.hid hr; clear hr
        go_wp2
        go_loop [3, 5] (fun a v => ∃ s : Nat, s ≤ r ∧ a = .int .i64 (8 * k + (r - s) : Nat) ∧ v = .int .u8 (mb s : Nat)) (fun _ v => (intOf v).toNat)
        case atStart => exact ⟨r, by omega, by congr 1; omega, rfl⟩
        case round =>
          obtain ⟨s, hs, rfl, rfl⟩ := hrel
          have hcase : s = 0 ∨ s = 1 ∨ s = 2 ∨ s = 3 ∨ s = 4 ∨ s = 5 ∨ s = 6 ∨ s = 7 := by omega
          rcases hcase with rfl | rfl | rfl | rfl | rfl | rfl | rfl | rfl
          · have e0 : ((mb 0 : Nat) : Int) = 0 := by decide
            rw [e0]
            go_wp2
            go_loop [4] (fun i => ∃ j : Nat, i = .int .i64 j ∧ k + 1 ≤ j ∧ j ≤ 4) (fun i => 4 - (intOf i).toNat)
            case atStart => exact ⟨k + 1, by go_num, by omega, by omega⟩
            case round =>
              obtain ⟨j, rfl, hj1, hj4⟩ := hrel
              by_cases hlj : j < 4
              · have hcj := HC.out j hlj
                have hr2 := HR.out
                have ez : mb (n - 8 * j) = 0 := by rw [show n - 8 * j = 0 by omega]; decide
                rw [ez] at hcj
                clear hr2 ez
                go_wp2
                go_round
                case rel => exact ⟨j + 1, by go_num, by omega, by omega⟩
                case measure => simp [intOf]; omega
              · obtain rfl : j = 4 := by omega
                go_wp2
                go_ret
                have hr2 := HR.out
                have e : 8 * k + (r - 0) = n := by omega
                exact ⟨by rw [← e]; first | rfl | (simp; done) | skip, Ext.refl _⟩
          · have e0 : ((mb 1 : Nat) : Int) = 128 := by decide
            rw [e0]
            go_wp2
            go_round
            case rel => exact ⟨0, by omega, by congr 1; omega, congrArg (Value.int .u8) (by decide)⟩
            case measure => decide
          · have e0 : ((mb 2 : Nat) : Int) = 192 := by decide
            rw [e0]
            go_wp2
            go_round
            case rel => exact ⟨1, by omega, by congr 1; omega, congrArg (Value.int .u8) (by decide)⟩
            case measure => decide
          · have e0 : ((mb 3 : Nat) : Int) = 224 := by decide
            rw [e0]
            go_wp2
            go_round
            case rel => exact ⟨2, by omega, by congr 1; omega, congrArg (Value.int .u8) (by decide)⟩
            case measure => decide
          · have e0 : ((mb 4 : Nat) : Int) = 240 := by decide
            rw [e0]
            go_wp2
            go_round
            case rel => exact ⟨3, by omega, by congr 1; omega, congrArg (Value.int .u8) (by decide)⟩
            case measure => decide
          · have e0 : ((mb 5 : Nat) : Int) = 248 := by decide
            rw [e0]
            go_wp2
            go_round
            case rel => exact ⟨4, by omega, by congr 1; omega, congrArg (Value.int .u8) (by decide)⟩
            case measure => decide
          · have e0 : ((mb 6 : Nat) : Int) = 252 := by decide
            rw [e0]
            go_wp2
            go_round
            case rel => exact ⟨5, by omega, by congr 1; omega, congrArg (Value.int .u8) (by decide)⟩
            case measure => decide
          · have e0 : ((mb 7 : Nat) : Int) = 254 := by decide
            rw [e0]
            go_wp2
            go_round
            case rel => exact ⟨6, by omega, by congr 1; omega, congrArg (Value.int .u8) (by decide)⟩
            case measure => decide
    · obtain rfl : k = 4 := by omega
      obtain rfl : n = 32 := by omega
      go_wp2
      go_ret
      exact ⟨rfl, Ext.refl _⟩
/-- A net of four bytes, whose mask is of ones alone. -/
structure NetGood (t : Net) : Prop where
  mask : ∃ n, n ≤ 32 ∧ t.mask = cidrB n
  ip : t.ip.length = 4 ∨ ∃ r, t.ip = preB ++ r ∧ r.length = 4
theorem cidrB_fb (n j : Nat) (hj : j < 4) : fb (cidrB n) j = ((mb (n - 8 * j) : Nat) : Int) := by
  match j, hj with
  | 0, _ => show ((u8 (mb n)).toNat : Int) = _; rw [u8_nat (mb_lt _)]; rfl
  | 1, _ => show ((u8 (mb (n - 8))).toNat : Int) = _; rw [u8_nat (mb_lt _)]
  | 2, _ => show ((u8 (mb (n - 16))).toNat : Int) = _; rw [u8_nat (mb_lt _)]
  | 3, _ => show ((u8 (mb (n - 24))).toNat : Int) = _; rw [u8_nat (mb_lt _)]
theorem pre_fb (r : List UInt8) (j : Nat) (hj : j < 12) : fb (preB ++ r) j = if j < 10 then 0 else 255 := by
  match j, hj with
  | 0, _ | 1, _ | 2, _ | 3, _ | 4, _ | 5, _ | 6, _ | 7, _ | 8, _ | 9, _ | 10, _ | 11, _ => rfl
/-- What networkNumberAndMask returns. -/
def NnmPost (w : World) (e : Ending) (w' : World) : Prop := (∃ (g o c m mo mc n : Nat) (x : Nat → Nat), e = .returned (.tuple #[.slice (some ⟨g, o, none⟩) 4 c, .slice (some ⟨m, mo, none⟩) 4 mc]) ∧ n ≤ 32 ∧
  (∀ j, j < 4 → x j < 256 ∧ w.cell? ⟨g, o + j, none⟩ = some (.int .u8 (x j : Nat))) ∧ (∀ j, j < 4 → w.cell? ⟨m, mo + j, none⟩ = some (.int .u8 (mb (n - 8 * j) : Nat)))) ∧ Ext w w'
set_option maxHeartbeats 8000000 in
set_option maxRecDepth 100000 in
theorem numMask_any (ge : Nat) (v : Value) (t : Net) (w : World) (hv : NetP w ge v t) (hg : NetGood t) :
    Calls Tryz.prog 104 #[v] w (NnmPost w) := by
  obtain ⟨b, v0, v1, rfl, _, c0, c1, hip, hmk⟩ := hv
  obtain ⟨⟨n, hn, hm⟩, hl⟩ := hg
  obtain ⟨mb', mo, mc, rfl, hmc, _, hmcell⟩ := hmk
  obtain ⟨ib, io, ic, rfl, hic, _, hicell⟩ := hip
  have hml : t.mask.length = 4 := by rw [hm]; rfl
  rw [hml] at c1 hmc
  have HM : Hid (∀ j, j < 4 → w.cell? ⟨mb', mo + j, none⟩ = some (.int .u8 (mb (n - 8 * j) : Nat))) := fun j hj => by
    rw [hmcell j (by omega), hm, cidrB_fb n j hj]
  rcases hl with hl | ⟨r, hr, hrl⟩
  · rw [hl] at c0 hic
    have HI : Hid (∀ j, j < 4 → (t.ip.getD j 0).toNat < 256 ∧ w.cell? ⟨ib, io + j, none⟩ = some (.int .u8 ((t.ip.getD j 0).toNat : Nat))) := fun j hj => ⟨UInt8.toNat_lt _, hicell j (by omega)⟩
    clear hmcell hicell hm hml
    go_enter Tryz.func104, Tryz.ntmps104
    go_wp2_with fail
    refine (To4_four ib io ic _).mono ?_
    rintro e wq ⟨rfl, rfl⟩
    have hq := fun W => Lib.run_eql_slice_nil (P := Tryz.prog) W 59 _ (some ⟨ib, io, none⟩) 4 ic 0 0 Tryz.underlying59
    go_wp2
    go_ret2
    exact ⟨⟨ib, io, ic, mb', mo, mc, n, _, rfl, hn, HI.out, HM.out⟩, Ext.refl _⟩
  · have hl : t.ip.length = 16 := by rw [hr, List.length_append, hrl]; rfl
    rw [hl] at c0 hic
    have HP : Hid (∀ j, j < 12 → w.cell? ⟨ib, io + j, none⟩ = some (.int .u8 (if j < 10 then 0 else 255))) := fun j hj => by
      rw [hicell j (by omega), hr, pre_fb r j hj]
    have HI : Hid (∀ j, j < 4 → (t.ip.getD (12 + j) 0).toNat < 256 ∧ w.cell? ⟨ib, io + 12 + j, none⟩ = some (.int .u8 ((t.ip.getD (12 + j) 0).toNat : Nat))) := fun j hj => ⟨UInt8.toNat_lt _, by rw [Nat.add_assoc]; exact hicell (12 + j) (by omega)⟩
    clear hmcell hicell hm hml hr
    go_enter Tryz.func104, Tryz.ntmps104
    go_wp2_with fail
    refine (To4_16 ib io ic _ hic HP.out).mono ?_
    rintro e w1 ⟨⟨c', rfl⟩, hb1⟩
    have HX1 := Lib.hid hb1
    have c1 := hb1.cell c1
    clear hb1
    have hq := fun W => Lib.run_eql_slice_nil (P := Tryz.prog) W 59 _ (some ⟨ib, io + 12, none⟩) 4 c' 0 0 Tryz.underlying59
    go_wp2
    go_ret2
    exact ⟨⟨ib, io + 12, c', mb', mo, mc, n, _, rfl, hn, HI.out, HM.out⟩, HX1.out⟩
theorem dec_small (n : Nat) (hn : n ≤ 32) : (Lib.decDigits n).length ≤ 2 := by
  by_cases h : n < 10
  · rw [Lib.decDigits_one h]; simp
  · rw [Lib.decDigits_two h (by omega)]; simp
set_option maxHeartbeats 8000000 in
set_option maxRecDepth 100000 in
theorem netString_any (zb zo pb po pc ge : Nat) (v : Value) (t : Net) (w : World) (ht : IpTab zb zo pb po pc w) (hv : NetP w ge v t) (hg : NetGood t) :
    Calls Tryz.prog 82 #[v] w (fun e w' => (∃ s : ByteArray, e = .returned (.string s) ∧ s.size ≤ 100) ∧ Ext w w') := by
  have HN := Lib.hid (numMask_any ge v t w hv hg)
  have HT := Lib.hid ht
  obtain ⟨b, v0, v1, rfl, _⟩ := hv
  clear ht hg
  go_enter Tryz.func82, Tryz.ntmps82
  go_wp2_with fail
  refine HN.out.mono ?_
  rintro e w1 ⟨⟨g, o, c, m, mo, mc, n, x, rfl, hn, hx, hm⟩, hb1⟩
  have HX1 := Lib.hid hb1
  have HX := Lib.hid hx; have HM := Lib.hid hm
  clear hb1 hx hm
  have hq := fun W => Lib.run_eql_slice_nil (P := Tryz.prog) W 59 _ (some ⟨g, o, none⟩) 4 c 0 0 Tryz.underlying59
  have hq2 := fun W => Lib.run_eql_slice_nil (P := Tryz.prog) W 82 _ (some ⟨m, mo, none⟩) 4 mc 0 0 Tryz.underlying82
  go_wp2_with fail
  refine (simpleMask_c m mo mc n _ hn (fun j hj => HX1.out.cell (HM.out j hj))).mono ?_
  rintro e w2 ⟨rfl, hb2⟩
  have HX2 := Lib.hid (HX1.out.tr hb2)
  clear hb2
  have hne : ((n : Int) == -1) = false := by rw [beq_eq_false_iff_ne]; omega
  go_wp2_with fail
  refine (ipString_4 zb zo pb po pc g o c x _ (HT.out.ext HX2.out) (fun j hj => ⟨(HX.out j hj).1, HX2.out.cell (HX.out j hj).2⟩)).mono ?_
  rintro e w3 ⟨⟨s, rfl, hs⟩, hb3⟩
  have HX3 := Lib.hid (HX2.out.tr hb3)
  clear hb3
  go_wp2_with fail
  refine (Tryz.internal_strconv_Itoa_small n (by omega) _).mono ?_
  rintro e w4 ⟨rfl, rfl⟩
  have hdl : (⟨(Lib.decDigits n).toArray⟩ : ByteArray).size ≤ 2 := by have := dec_small n hn; simpa [ByteArray.size] using this
  generalize (⟨(Lib.decDigits n).toArray⟩ : ByteArray) = D at hdl ⊢
  go_wp2
  go_ret
  exact ⟨⟨_, rfl, by simp [ByteArray.size_append]; have : (⟨#[47]⟩ : ByteArray).size = 1 := rfl; omega⟩, HX3.out⟩
end Go.Proofs.YtedniebpabfglaaGreatDoor
end
