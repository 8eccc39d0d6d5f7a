/- The walks of the options' closures: each lays its texts, normalized, into the engine. -/
import Derived.Test.YtedniebpabfglaaGreatDoorEng
namespace Go.Proofs.YtedniebpabfglaaGreatDoor
open Go.RowKit

/-- A row the first of whose texts are laid. -/
def rowTo (ys : List ByteArray) (k : Nat) : List Value := (ys.take k).map Value.string ++ List.replicate (ys.length - k) (.string ⟨#[]⟩)
theorem rowTo_zero (ys : List ByteArray) : rowTo ys 0 = List.replicate ys.length (.string ⟨#[]⟩) := by simp [rowTo]
theorem rowTo_all (ys : List ByteArray) : rowTo ys ys.length = ys.map Value.string := by simp [rowTo]
theorem rowTo_get (ys : List ByteArray) (k : Nat) (h : k < ys.length) : (rowTo ys k)[k]? = some (.string ⟨#[]⟩) := by
  unfold rowTo
  have hl : ((ys.take k).map Value.string).length = k := by simp; omega
  rw [List.getElem?_append_right (by omega), hl, Nat.sub_self, List.getElem?_replicate, if_pos (by omega)]
theorem rowTo_set (ys : List ByteArray) (k : Nat) (h : k < ys.length) : (rowTo ys k).set k (.string ys[k]) = rowTo ys (k + 1) := by
  unfold rowTo
  have hl : ((ys.take k).map Value.string).length = k := by simp; omega
  rw [List.set_append_right _ _ (by omega), hl, Nat.sub_self, show ys.length - k = (ys.length - (k + 1)) + 1 by omega, List.replicate_succ, List.set_cons_zero, List.take_succ_eq_append_getElem h, List.map_append]
  simp
theorem made_row (n : Nat) : (madeCells (Value.cells (.string ⟨#[]⟩)) (n * 1)).toList = List.replicate n (.string ⟨#[]⟩) := by
  rw [Nat.mul_one]; exact toList_madeCells_one _ _
theorem ext_none {w w' : World} (h : w.grownBy w' none) : Ext w w' := ⟨h.os, h.tape, h.output, h.size, fun k hk => h.block k hk (by simp)⟩
/-- A captured slice: where the variable lies, and what it reads as. -/
structure CapS (w : World) (g b : Nat) (A : Option Addr) (n c : Nat) (xs : List ByteArray) : Prop where
  blk : Blk w b 22 #[.slice A n c]
  ne : b ≠ g
  rd : RdS w A n xs
  far : ∀ ad, A = some ad → 0 < n → ad.block ≠ g
  few : n ≤ 20
  small : ∀ x ∈ xs, x.size ≤ 2147483647
theorem CapS.ext {w w' : World} {g b : Nat} {A : Option Addr} {n c : Nat} {xs : List ByteArray} (h : CapS w g b A n c xs) (hx : Ext w w') : CapS w' g b A n c xs := ⟨h.blk.ext hx, h.ne, h.rd.ext hx, h.far, h.few, h.small⟩
/-- What an option's closure returns. -/
def OptPost (g : Nat) (a : AE) (w : World) (e : Ending) (w' : World) : Prop := e = .returned .nilIface ∧ EngIs w' g a ∧ KeepG g w w'

set_option maxHeartbeats 2000000 in
set_option maxRecDepth 100000 in
theorem opt_dns (g b : Nat) (a : AE) (A : Option Addr) (n c : Nat) (xs : List ByteArray) (nf : List UInt8 → List UInt8) (w : World) (hE : EngIs w g a) (hC : CapS w g b A n c xs)
    (hlen : ∀ x ∈ xs, (nf (bl x)).length ≤ 2147483647)
    (hN : ∀ x ∈ xs, ∀ w', Ext w w' → Calls Tryz.prog 40 #[.string x] w' (NormPost (nf (bl x)) w')) :
    Calls Tryz.prog 39 #[.pointer (some ⟨g, 0, none⟩), .pointer (some ⟨b, 0, none⟩)] w (OptPost g { a with dns := xs.map fun x => nf (bl x) } w) := by
  have HE := Lib.hid hE; clear hE
  have HC := Lib.hid hC; clear hC
  have HN := Lib.hid hN; clear hN
  have HLN := Lib.hid hlen; clear hlen
  obtain ⟨ys, hys⟩ : ∃ ys : List ByteArray, ys = xs.map fun x => mk (nf (bl x)) := ⟨_, rfl⟩
  have HY := Lib.hid hys
  have hyl : Hid (ys.length = n) := by unfold Hid; rw [hys, List.length_map]; exact HC.out.rd.1
  clear hys
  have hn : n ≤ 20 := HC.out.few
  obtain ⟨i0, hi, hz0, hz1, hz2⟩ := info_parts info_string
  have cb0 : w.cell? ⟨b, 0, none⟩ = some (.slice A n c) := HC.out.blk.cell 0
  go_enter Tryz.func39, Tryz.ntmps39
  go_wp2_with (at_make; refine wpList_make_full _ rfl (.tmp 10) (.tmp 10) 22 rfl w.heap.size 9 i0 (.string ⟨#[]⟩) 1 Tryz.underlying22 hi hz0 hz1 .i64 .i64 n n n rfl rfl rfl rfl (by rw [hz2]; omega) (by unfold maxLen; omega) (Nat.le_refl _) ?_; intro w1 hown hgrow; have cb1 : w1.cell? ⟨b, 0, none⟩ = some (.slice A n c) := (HC.out.blk.ext (ext_none hgrow)).cell 0)
  have hx1 : Ext w w1 := ext_none hgrow
  obtain ⟨h, hh⟩ : ∃ h, h = w.heap.size := ⟨_, rfl⟩
  have HH := Lib.hid hh
  rw [← hh] at hown
  rw [made_row, ← hyl.out, ← rowTo_zero] at hown
  clear hgrow cb0 cb1
  rw [← hh]
  clear hh
  go_wp2
  go_loopw [5, 6, 7, 8, 14] (fun _ _ _ _ i wr => ∃ k : Nat, i = .int .i64 k ∧ k ≤ n ∧ wr.ownsRow h 9 1 (.slice (some ⟨h, 0, none⟩) n n) ys.length (rowTo ys k) ∧ Ext w wr) (fun _ _ _ _ i _ => n - (intOf i).toNat)
  case atStart => exact ⟨0, rfl, by omega, by rw [hyl.out] at hown ⊢; exact hown, hx1⟩
  case round =>
    obtain ⟨k, rfl, hk, hown, hb⟩ := hrel
    by_cases hlt : k < n
    · have hkx : k < xs.length := by rw [HC.out.rd.1]; exact hlt
      have hky : k < ys.length := by rw [hyl.out]; exact hlt
      obtain ⟨ad, rfl, hck⟩ := (HC.out.rd.ext hb).2.2 k hkx
      obtain ⟨x, hx⟩ : ∃ x, x = xs[k] := ⟨_, rfl⟩
      rw [← hx] at hck
      have hxm : x ∈ xs := by rw [hx]; exact List.getElem_mem hkx
      have HYK : Hid (ys[k] = mk (nf (bl x))) := by
        have h2 := HY.out
        subst h2
        unfold Hid
        rw [List.getElem_map, hx]
      clear hx
      have HOW := Lib.hid hown; clear hown
      go_wp2_with fail
      refine (HN.out x hxm _ hb).mono ?_
      rintro e w2 ⟨rfl, hb2⟩
      have hown2 := own_ext HOW.out hb2
      rw [hyl.out] at hown2
      have hcell : w2.cell? ⟨h, k, none⟩ = some (.string ⟨#[]⟩) := by rw [hown2.cellAt k (by omega)]; exact rowTo_get ys k hky
      have hfr : w2.frozen? ⟨h, k, none⟩ = false := hown2.frozenAt k
      have hst := (hown2.stored k (.string (mk (nf (bl x))))).1
      rw [← HYK.out, rowTo_set ys k hky, HYK.out] at hst
      have HST := Lib.hid hst; clear hst hown2
      go_wp2
      go_roundw
      case rel => exact ⟨k + 1, by go_num, by omega, by rw [hyl.out]; exact HST.out, Below.setCell (hb.tr hb2) (by rw [HH.out]; exact Nat.le_refl _) _⟩
      case measure => simp [intOf]; omega
    · obtain rfl : k = n := by omega
      rw [show rowTo ys k = rowTo ys ys.length from by rw [hyl.out], rowTo_all, hyl.out] at hown
      obtain ⟨e, he⟩ := HE.out
      have heW := he.ext hb
      have hgl := heW.blk.lt
      have hgw := he.blk.lt
      have HOW := Lib.hid hown; clear hown
      have hcell : wr.cell? ⟨g, 4, none⟩ = some e.dns := heW.blk.cell 4
      have hfr : wr.frozen? ⟨g, 4, none⟩ = false := heW.blk.frozen 4
      have HW := Lib.hid heW; clear heW
      have hstr : StrF wr g (.slice (some ⟨h, 0, none⟩) k k) (xs.map fun x => nf (bl x)) := by
        obtain ⟨A2, c2, hv2, hrd2⟩ := own_rdS HOW.out (by omega)
        injection hv2 with hA hB hC2
        subst hA hC2
        refine ⟨some ⟨h, 0, none⟩, k, k, ys, rfl, hrd2, ?_, ?_, ?_⟩
        · rw [HY.out, List.map_map]; exact List.map_congr_left fun x _ => bl_mk _
        · intro x hx
          rw [HY.out] at hx
          obtain ⟨z, hz, rfl⟩ := List.mem_map.1 hx
          rw [size_mk]; exact HLN.out z hz
        · intro ad had _ he2
          injection had with had
          subst had
          have : h = g := he2
          have := HH.out
          omega
      have HSR := Lib.hid hstr; clear hstr
      clear he
      go_wp2
      go_ret
      exact ⟨rfl, ⟨_, HW.out.set_dns _ _ HSR.out⟩, (KeepG.of_ext hb).set _ _⟩

set_option maxHeartbeats 2000000 in
set_option maxRecDepth 100000 in
theorem opt_ndns (g b : Nat) (a : AE) (A : Option Addr) (n c : Nat) (xs : List ByteArray) (nf : List UInt8 → List UInt8) (w : World) (hE : EngIs w g a) (hC : CapS w g b A n c xs)
    (hlen : ∀ x ∈ xs, (nf (bl x)).length ≤ 2147483647)
    (hN : ∀ x ∈ xs, ∀ w', Ext w w' → Calls Tryz.prog 40 #[.string x] w' (NormPost (nf (bl x)) w')) :
    Calls Tryz.prog 41 #[.pointer (some ⟨g, 0, none⟩), .pointer (some ⟨b, 0, none⟩)] w (OptPost g { a with ndns := xs.map fun x => nf (bl x) } w) := by
  have HE := Lib.hid hE; clear hE
  have HC := Lib.hid hC; clear hC
  have HN := Lib.hid hN; clear hN
  have HLN := Lib.hid hlen; clear hlen
  obtain ⟨ys, hys⟩ : ∃ ys : List ByteArray, ys = xs.map fun x => mk (nf (bl x)) := ⟨_, rfl⟩
  have HY := Lib.hid hys
  have hyl : Hid (ys.length = n) := by unfold Hid; rw [hys, List.length_map]; exact HC.out.rd.1
  clear hys
  have hn : n ≤ 20 := HC.out.few
  obtain ⟨i0, hi, hz0, hz1, hz2⟩ := info_parts info_string
  have cb0 : w.cell? ⟨b, 0, none⟩ = some (.slice A n c) := HC.out.blk.cell 0
  go_enter Tryz.func41, Tryz.ntmps41
  go_wp2_with (at_make; refine wpList_make_full _ rfl (.tmp 10) (.tmp 10) 22 rfl w.heap.size 9 i0 (.string ⟨#[]⟩) 1 Tryz.underlying22 hi hz0 hz1 .i64 .i64 n n n rfl rfl rfl rfl (by rw [hz2]; omega) (by unfold maxLen; omega) (Nat.le_refl _) ?_; intro w1 hown hgrow; have cb1 : w1.cell? ⟨b, 0, none⟩ = some (.slice A n c) := (HC.out.blk.ext (ext_none hgrow)).cell 0)
  have hx1 : Ext w w1 := ext_none hgrow
  obtain ⟨h, hh⟩ : ∃ h, h = w.heap.size := ⟨_, rfl⟩
  have HH := Lib.hid hh
  rw [← hh] at hown
  rw [made_row, ← hyl.out, ← rowTo_zero] at hown
  clear hgrow cb0 cb1
  rw [← hh]
  clear hh
  go_wp2
  go_loopw [5, 6, 7, 8, 14] (fun _ _ _ _ i wr => ∃ k : Nat, i = .int .i64 k ∧ k ≤ n ∧ wr.ownsRow h 9 1 (.slice (some ⟨h, 0, none⟩) n n) ys.length (rowTo ys k) ∧ Ext w wr) (fun _ _ _ _ i _ => n - (intOf i).toNat)
  case atStart => exact ⟨0, rfl, by omega, by rw [hyl.out] at hown ⊢; exact hown, hx1⟩
  case round =>
    obtain ⟨k, rfl, hk, hown, hb⟩ := hrel
    by_cases hlt : k < n
    · have hkx : k < xs.length := by rw [HC.out.rd.1]; exact hlt
      have hky : k < ys.length := by rw [hyl.out]; exact hlt
      obtain ⟨ad, rfl, hck⟩ := (HC.out.rd.ext hb).2.2 k hkx
      obtain ⟨x, hx⟩ : ∃ x, x = xs[k] := ⟨_, rfl⟩
      rw [← hx] at hck
      have hxm : x ∈ xs := by rw [hx]; exact List.getElem_mem hkx
      have HYK : Hid (ys[k] = mk (nf (bl x))) := by
        have h2 := HY.out
        subst h2
        unfold Hid
        rw [List.getElem_map, hx]
      clear hx
      have HOW := Lib.hid hown; clear hown
      go_wp2_with fail
      refine (HN.out x hxm _ hb).mono ?_
      rintro e w2 ⟨rfl, hb2⟩
      have hown2 := own_ext HOW.out hb2
      rw [hyl.out] at hown2
      have hcell : w2.cell? ⟨h, k, none⟩ = some (.string ⟨#[]⟩) := by rw [hown2.cellAt k (by omega)]; exact rowTo_get ys k hky
      have hfr : w2.frozen? ⟨h, k, none⟩ = false := hown2.frozenAt k
      have hst := (hown2.stored k (.string (mk (nf (bl x))))).1
      rw [← HYK.out, rowTo_set ys k hky, HYK.out] at hst
      have HST := Lib.hid hst; clear hst hown2
      go_wp2
      go_roundw
      case rel => exact ⟨k + 1, by go_num, by omega, by rw [hyl.out]; exact HST.out, Below.setCell (hb.tr hb2) (by rw [HH.out]; exact Nat.le_refl _) _⟩
      case measure => simp [intOf]; omega
    · obtain rfl : k = n := by omega
      rw [show rowTo ys k = rowTo ys ys.length from by rw [hyl.out], rowTo_all, hyl.out] at hown
      obtain ⟨e, he⟩ := HE.out
      have heW := he.ext hb
      have hgl := heW.blk.lt
      have hgw := he.blk.lt
      have HOW := Lib.hid hown; clear hown
      have hcell : wr.cell? ⟨g, 5, none⟩ = some e.ndns := heW.blk.cell 5
      have hfr : wr.frozen? ⟨g, 5, none⟩ = false := heW.blk.frozen 5
      have HW := Lib.hid heW; clear heW
      have hstr : StrF wr g (.slice (some ⟨h, 0, none⟩) k k) (xs.map fun x => nf (bl x)) := by
        obtain ⟨A2, c2, hv2, hrd2⟩ := own_rdS HOW.out (by omega)
        injection hv2 with hA hB hC2
        subst hA hC2
        refine ⟨some ⟨h, 0, none⟩, k, k, ys, rfl, hrd2, ?_, ?_, ?_⟩
        · rw [HY.out, List.map_map]; exact List.map_congr_left fun x _ => bl_mk _
        · intro x hx
          rw [HY.out] at hx
          obtain ⟨z, hz, rfl⟩ := List.mem_map.1 hx
          rw [size_mk]; exact HLN.out z hz
        · intro ad had _ he2
          injection had with had
          subst had
          have : h = g := he2
          have := HH.out
          omega
      have HSR := Lib.hid hstr; clear hstr
      clear he
      go_wp2
      go_ret
      exact ⟨rfl, ⟨_, HW.out.set_ndns _ _ HSR.out⟩, (KeepG.of_ext hb).set _ _⟩

set_option maxHeartbeats 2000000 in
set_option maxRecDepth 100000 in
theorem opt_em (g b : Nat) (a : AE) (A : Option Addr) (n c : Nat) (xs : List ByteArray) (nf : List UInt8 → List UInt8) (w : World) (hE : EngIs w g a) (hC : CapS w g b A n c xs)
    (hlen : ∀ x ∈ xs, (nf (bl x)).length ≤ 2147483647)
    (hN : ∀ x ∈ xs, ∀ w', Ext w w' → Calls Tryz.prog 49 #[.string x] w' (NormPost (nf (bl x)) w')) :
    Calls Tryz.prog 48 #[.pointer (some ⟨g, 0, none⟩), .pointer (some ⟨b, 0, none⟩)] w (OptPost g { a with em := xs.map fun x => nf (bl x) } w) := by
  have HE := Lib.hid hE; clear hE
  have HC := Lib.hid hC; clear hC
  have HN := Lib.hid hN; clear hN
  have HLN := Lib.hid hlen; clear hlen
  obtain ⟨ys, hys⟩ : ∃ ys : List ByteArray, ys = xs.map fun x => mk (nf (bl x)) := ⟨_, rfl⟩
  have HY := Lib.hid hys
  have hyl : Hid (ys.length = n) := by unfold Hid; rw [hys, List.length_map]; exact HC.out.rd.1
  clear hys
  have hn : n ≤ 20 := HC.out.few
  obtain ⟨i0, hi, hz0, hz1, hz2⟩ := info_parts info_string
  have cb0 : w.cell? ⟨b, 0, none⟩ = some (.slice A n c) := HC.out.blk.cell 0
  go_enter Tryz.func48, Tryz.ntmps48
  go_wp2_with (at_make; refine wpList_make_full _ rfl (.tmp 10) (.tmp 10) 22 rfl w.heap.size 9 i0 (.string ⟨#[]⟩) 1 Tryz.underlying22 hi hz0 hz1 .i64 .i64 n n n rfl rfl rfl rfl (by rw [hz2]; omega) (by unfold maxLen; omega) (Nat.le_refl _) ?_; intro w1 hown hgrow; have cb1 : w1.cell? ⟨b, 0, none⟩ = some (.slice A n c) := (HC.out.blk.ext (ext_none hgrow)).cell 0)
  have hx1 : Ext w w1 := ext_none hgrow
  obtain ⟨h, hh⟩ : ∃ h, h = w.heap.size := ⟨_, rfl⟩
  have HH := Lib.hid hh
  rw [← hh] at hown
  rw [made_row, ← hyl.out, ← rowTo_zero] at hown
  clear hgrow cb0 cb1
  rw [← hh]
  clear hh
  go_wp2
  go_loopw [5, 6, 7, 8, 14] (fun _ _ _ _ i wr => ∃ k : Nat, i = .int .i64 k ∧ k ≤ n ∧ wr.ownsRow h 9 1 (.slice (some ⟨h, 0, none⟩) n n) ys.length (rowTo ys k) ∧ Ext w wr) (fun _ _ _ _ i _ => n - (intOf i).toNat)
  case atStart => exact ⟨0, rfl, by omega, by rw [hyl.out] at hown ⊢; exact hown, hx1⟩
  case round =>
    obtain ⟨k, rfl, hk, hown, hb⟩ := hrel
    by_cases hlt : k < n
    · have hkx : k < xs.length := by rw [HC.out.rd.1]; exact hlt
      have hky : k < ys.length := by rw [hyl.out]; exact hlt
      obtain ⟨ad, rfl, hck⟩ := (HC.out.rd.ext hb).2.2 k hkx
      obtain ⟨x, hx⟩ : ∃ x, x = xs[k] := ⟨_, rfl⟩
      rw [← hx] at hck
      have hxm : x ∈ xs := by rw [hx]; exact List.getElem_mem hkx
      have HYK : Hid (ys[k] = mk (nf (bl x))) := by
        have h2 := HY.out
        subst h2
        unfold Hid
        rw [List.getElem_map, hx]
      clear hx
      have HOW := Lib.hid hown; clear hown
      go_wp2_with fail
      refine (HN.out x hxm _ hb).mono ?_
      rintro e w2 ⟨rfl, hb2⟩
      have hown2 := own_ext HOW.out hb2
      rw [hyl.out] at hown2
      have hcell : w2.cell? ⟨h, k, none⟩ = some (.string ⟨#[]⟩) := by rw [hown2.cellAt k (by omega)]; exact rowTo_get ys k hky
      have hfr : w2.frozen? ⟨h, k, none⟩ = false := hown2.frozenAt k
      have hst := (hown2.stored k (.string (mk (nf (bl x))))).1
      rw [← HYK.out, rowTo_set ys k hky, HYK.out] at hst
      have HST := Lib.hid hst; clear hst hown2
      go_wp2
      go_roundw
      case rel => exact ⟨k + 1, by go_num, by omega, by rw [hyl.out]; exact HST.out, Below.setCell (hb.tr hb2) (by rw [HH.out]; exact Nat.le_refl _) _⟩
      case measure => simp [intOf]; omega
    · obtain rfl : k = n := by omega
      rw [show rowTo ys k = rowTo ys ys.length from by rw [hyl.out], rowTo_all, hyl.out] at hown
      obtain ⟨e, he⟩ := HE.out
      have heW := he.ext hb
      have hgl := heW.blk.lt
      have hgw := he.blk.lt
      have HOW := Lib.hid hown; clear hown
      have hcell : wr.cell? ⟨g, 8, none⟩ = some e.em := heW.blk.cell 8
      have hfr : wr.frozen? ⟨g, 8, none⟩ = false := heW.blk.frozen 8
      have HW := Lib.hid heW; clear heW
      have hstr : StrF wr g (.slice (some ⟨h, 0, none⟩) k k) (xs.map fun x => nf (bl x)) := by
        obtain ⟨A2, c2, hv2, hrd2⟩ := own_rdS HOW.out (by omega)
        injection hv2 with hA hB hC2
        subst hA hC2
        refine ⟨some ⟨h, 0, none⟩, k, k, ys, rfl, hrd2, ?_, ?_, ?_⟩
        · rw [HY.out, List.map_map]; exact List.map_congr_left fun x _ => bl_mk _
        · intro x hx
          rw [HY.out] at hx
          obtain ⟨z, hz, rfl⟩ := List.mem_map.1 hx
          rw [size_mk]; exact HLN.out z hz
        · intro ad had _ he2
          injection had with had
          subst had
          have : h = g := he2
          have := HH.out
          omega
      have HSR := Lib.hid hstr; clear hstr
      clear he
      go_wp2
      go_ret
      exact ⟨rfl, ⟨_, HW.out.set_em _ _ HSR.out⟩, (KeepG.of_ext hb).set _ _⟩

set_option maxHeartbeats 2000000 in
set_option maxRecDepth 100000 in
theorem opt_nem (g b : Nat) (a : AE) (A : Option Addr) (n c : Nat) (xs : List ByteArray) (nf : List UInt8 → List UInt8) (w : World) (hE : EngIs w g a) (hC : CapS w g b A n c xs)
    (hlen : ∀ x ∈ xs, (nf (bl x)).length ≤ 2147483647)
    (hN : ∀ x ∈ xs, ∀ w', Ext w w' → Calls Tryz.prog 49 #[.string x] w' (NormPost (nf (bl x)) w')) :
    Calls Tryz.prog 50 #[.pointer (some ⟨g, 0, none⟩), .pointer (some ⟨b, 0, none⟩)] w (OptPost g { a with nem := xs.map fun x => nf (bl x) } w) := by
  have HE := Lib.hid hE; clear hE
  have HC := Lib.hid hC; clear hC
  have HN := Lib.hid hN; clear hN
  have HLN := Lib.hid hlen; clear hlen
  obtain ⟨ys, hys⟩ : ∃ ys : List ByteArray, ys = xs.map fun x => mk (nf (bl x)) := ⟨_, rfl⟩
  have HY := Lib.hid hys
  have hyl : Hid (ys.length = n) := by unfold Hid; rw [hys, List.length_map]; exact HC.out.rd.1
  clear hys
  have hn : n ≤ 20 := HC.out.few
  obtain ⟨i0, hi, hz0, hz1, hz2⟩ := info_parts info_string
  have cb0 : w.cell? ⟨b, 0, none⟩ = some (.slice A n c) := HC.out.blk.cell 0
  go_enter Tryz.func50, Tryz.ntmps50
  go_wp2_with (at_make; refine wpList_make_full _ rfl (.tmp 10) (.tmp 10) 22 rfl w.heap.size 9 i0 (.string ⟨#[]⟩) 1 Tryz.underlying22 hi hz0 hz1 .i64 .i64 n n n rfl rfl rfl rfl (by rw [hz2]; omega) (by unfold maxLen; omega) (Nat.le_refl _) ?_; intro w1 hown hgrow; have cb1 : w1.cell? ⟨b, 0, none⟩ = some (.slice A n c) := (HC.out.blk.ext (ext_none hgrow)).cell 0)
  have hx1 : Ext w w1 := ext_none hgrow
  obtain ⟨h, hh⟩ : ∃ h, h = w.heap.size := ⟨_, rfl⟩
  have HH := Lib.hid hh
  rw [← hh] at hown
  rw [made_row, ← hyl.out, ← rowTo_zero] at hown
  clear hgrow cb0 cb1
  rw [← hh]
  clear hh
  go_wp2
  go_loopw [5, 6, 7, 8, 14] (fun _ _ _ _ i wr => ∃ k : Nat, i = .int .i64 k ∧ k ≤ n ∧ wr.ownsRow h 9 1 (.slice (some ⟨h, 0, none⟩) n n) ys.length (rowTo ys k) ∧ Ext w wr) (fun _ _ _ _ i _ => n - (intOf i).toNat)
  case atStart => exact ⟨0, rfl, by omega, by rw [hyl.out] at hown ⊢; exact hown, hx1⟩
  case round =>
    obtain ⟨k, rfl, hk, hown, hb⟩ := hrel
    by_cases hlt : k < n
    · have hkx : k < xs.length := by rw [HC.out.rd.1]; exact hlt
      have hky : k < ys.length := by rw [hyl.out]; exact hlt
      obtain ⟨ad, rfl, hck⟩ := (HC.out.rd.ext hb).2.2 k hkx
      obtain ⟨x, hx⟩ : ∃ x, x = xs[k] := ⟨_, rfl⟩
      rw [← hx] at hck
      have hxm : x ∈ xs := by rw [hx]; exact List.getElem_mem hkx
      have HYK : Hid (ys[k] = mk (nf (bl x))) := by
        have h2 := HY.out
        subst h2
        unfold Hid
        rw [List.getElem_map, hx]
      clear hx
      have HOW := Lib.hid hown; clear hown
      go_wp2_with fail
      refine (HN.out x hxm _ hb).mono ?_
      rintro e w2 ⟨rfl, hb2⟩
      have hown2 := own_ext HOW.out hb2
      rw [hyl.out] at hown2
      have hcell : w2.cell? ⟨h, k, none⟩ = some (.string ⟨#[]⟩) := by rw [hown2.cellAt k (by omega)]; exact rowTo_get ys k hky
      have hfr : w2.frozen? ⟨h, k, none⟩ = false := hown2.frozenAt k
      have hst := (hown2.stored k (.string (mk (nf (bl x))))).1
      rw [← HYK.out, rowTo_set ys k hky, HYK.out] at hst
      have HST := Lib.hid hst; clear hst hown2
      go_wp2
      go_roundw
      case rel => exact ⟨k + 1, by go_num, by omega, by rw [hyl.out]; exact HST.out, Below.setCell (hb.tr hb2) (by rw [HH.out]; exact Nat.le_refl _) _⟩
      case measure => simp [intOf]; omega
    · obtain rfl : k = n := by omega
      rw [show rowTo ys k = rowTo ys ys.length from by rw [hyl.out], rowTo_all, hyl.out] at hown
      obtain ⟨e, he⟩ := HE.out
      have heW := he.ext hb
      have hgl := heW.blk.lt
      have hgw := he.blk.lt
      have HOW := Lib.hid hown; clear hown
      have hcell : wr.cell? ⟨g, 9, none⟩ = some e.nem := heW.blk.cell 9
      have hfr : wr.frozen? ⟨g, 9, none⟩ = false := heW.blk.frozen 9
      have HW := Lib.hid heW; clear heW
      have hstr : StrF wr g (.slice (some ⟨h, 0, none⟩) k k) (xs.map fun x => nf (bl x)) := by
        obtain ⟨A2, c2, hv2, hrd2⟩ := own_rdS HOW.out (by omega)
        injection hv2 with hA hB hC2
        subst hA hC2
        refine ⟨some ⟨h, 0, none⟩, k, k, ys, rfl, hrd2, ?_, ?_, ?_⟩
        · rw [HY.out, List.map_map]; exact List.map_congr_left fun x _ => bl_mk _
        · intro x hx
          rw [HY.out] at hx
          obtain ⟨z, hz, rfl⟩ := List.mem_map.1 hx
          rw [size_mk]; exact HLN.out z hz
        · intro ad had _ he2
          injection had with had
          subst had
          have : h = g := he2
          have := HH.out
          omega
      have HSR := Lib.hid hstr; clear hstr
      clear he
      go_wp2
      go_ret
      exact ⟨rfl, ⟨_, HW.out.set_nem _ _ HSR.out⟩, (KeepG.of_ext hb).set _ _⟩

set_option maxHeartbeats 2000000 in
set_option maxRecDepth 100000 in
theorem opt_uri (g b : Nat) (a : AE) (A : Option Addr) (n c : Nat) (xs : List ByteArray) (nf : List UInt8 → List UInt8) (w : World) (hE : EngIs w g a) (hC : CapS w g b A n c xs)
    (hlen : ∀ x ∈ xs, (nf (bl x)).length ≤ 2147483647)
    (hN : ∀ x ∈ xs, ∀ w', Ext w w' → Calls Tryz.prog 52 #[.string x] w' (NormPost (nf (bl x)) w')) :
    Calls Tryz.prog 51 #[.pointer (some ⟨g, 0, none⟩), .pointer (some ⟨b, 0, none⟩)] w (OptPost g { a with uri := xs.map fun x => nf (bl x) } w) := by
  have HE := Lib.hid hE; clear hE
  have HC := Lib.hid hC; clear hC
  have HN := Lib.hid hN; clear hN
  have HLN := Lib.hid hlen; clear hlen
  obtain ⟨ys, hys⟩ : ∃ ys : List ByteArray, ys = xs.map fun x => mk (nf (bl x)) := ⟨_, rfl⟩
  have HY := Lib.hid hys
  have hyl : Hid (ys.length = n) := by unfold Hid; rw [hys, List.length_map]; exact HC.out.rd.1
  clear hys
  have hn : n ≤ 20 := HC.out.few
  obtain ⟨i0, hi, hz0, hz1, hz2⟩ := info_parts info_string
  have cb0 : w.cell? ⟨b, 0, none⟩ = some (.slice A n c) := HC.out.blk.cell 0
  go_enter Tryz.func51, Tryz.ntmps51
  go_wp2_with (at_make; refine wpList_make_full _ rfl (.tmp 10) (.tmp 10) 22 rfl w.heap.size 9 i0 (.string ⟨#[]⟩) 1 Tryz.underlying22 hi hz0 hz1 .i64 .i64 n n n rfl rfl rfl rfl (by rw [hz2]; omega) (by unfold maxLen; omega) (Nat.le_refl _) ?_; intro w1 hown hgrow; have cb1 : w1.cell? ⟨b, 0, none⟩ = some (.slice A n c) := (HC.out.blk.ext (ext_none hgrow)).cell 0)
  have hx1 : Ext w w1 := ext_none hgrow
  obtain ⟨h, hh⟩ : ∃ h, h = w.heap.size := ⟨_, rfl⟩
  have HH := Lib.hid hh
  rw [← hh] at hown
  rw [made_row, ← hyl.out, ← rowTo_zero] at hown
  clear hgrow cb0 cb1
  rw [← hh]
  clear hh
  go_wp2
  go_loopw [5, 6, 7, 8, 14] (fun _ _ _ _ i wr => ∃ k : Nat, i = .int .i64 k ∧ k ≤ n ∧ wr.ownsRow h 9 1 (.slice (some ⟨h, 0, none⟩) n n) ys.length (rowTo ys k) ∧ Ext w wr) (fun _ _ _ _ i _ => n - (intOf i).toNat)
  case atStart => exact ⟨0, rfl, by omega, by rw [hyl.out] at hown ⊢; exact hown, hx1⟩
  case round =>
    obtain ⟨k, rfl, hk, hown, hb⟩ := hrel
    by_cases hlt : k < n
    · have hkx : k < xs.length := by rw [HC.out.rd.1]; exact hlt
      have hky : k < ys.length := by rw [hyl.out]; exact hlt
      obtain ⟨ad, rfl, hck⟩ := (HC.out.rd.ext hb).2.2 k hkx
      obtain ⟨x, hx⟩ : ∃ x, x = xs[k] := ⟨_, rfl⟩
      rw [← hx] at hck
      have hxm : x ∈ xs := by rw [hx]; exact List.getElem_mem hkx
      have HYK : Hid (ys[k] = mk (nf (bl x))) := by
        have h2 := HY.out
        subst h2
        unfold Hid
        rw [List.getElem_map, hx]
      clear hx
      have HOW := Lib.hid hown; clear hown
      go_wp2_with fail
      refine (HN.out x hxm _ hb).mono ?_
      rintro e w2 ⟨rfl, hb2⟩
      have hown2 := own_ext HOW.out hb2
      rw [hyl.out] at hown2
      have hcell : w2.cell? ⟨h, k, none⟩ = some (.string ⟨#[]⟩) := by rw [hown2.cellAt k (by omega)]; exact rowTo_get ys k hky
      have hfr : w2.frozen? ⟨h, k, none⟩ = false := hown2.frozenAt k
      have hst := (hown2.stored k (.string (mk (nf (bl x))))).1
      rw [← HYK.out, rowTo_set ys k hky, HYK.out] at hst
      have HST := Lib.hid hst; clear hst hown2
      go_wp2
      go_roundw
      case rel => exact ⟨k + 1, by go_num, by omega, by rw [hyl.out]; exact HST.out, Below.setCell (hb.tr hb2) (by rw [HH.out]; exact Nat.le_refl _) _⟩
      case measure => simp [intOf]; omega
    · obtain rfl : k = n := by omega
      rw [show rowTo ys k = rowTo ys ys.length from by rw [hyl.out], rowTo_all, hyl.out] at hown
      obtain ⟨e, he⟩ := HE.out
      have heW := he.ext hb
      have hgl := heW.blk.lt
      have hgw := he.blk.lt
      have HOW := Lib.hid hown; clear hown
      have hcell : wr.cell? ⟨g, 10, none⟩ = some e.uri := heW.blk.cell 10
      have hfr : wr.frozen? ⟨g, 10, none⟩ = false := heW.blk.frozen 10
      have HW := Lib.hid heW; clear heW
      have hstr : StrF wr g (.slice (some ⟨h, 0, none⟩) k k) (xs.map fun x => nf (bl x)) := by
        obtain ⟨A2, c2, hv2, hrd2⟩ := own_rdS HOW.out (by omega)
        injection hv2 with hA hB hC2
        subst hA hC2
        refine ⟨some ⟨h, 0, none⟩, k, k, ys, rfl, hrd2, ?_, ?_, ?_⟩
        · rw [HY.out, List.map_map]; exact List.map_congr_left fun x _ => bl_mk _
        · intro x hx
          rw [HY.out] at hx
          obtain ⟨z, hz, rfl⟩ := List.mem_map.1 hx
          rw [size_mk]; exact HLN.out z hz
        · intro ad had _ he2
          injection had with had
          subst had
          have : h = g := he2
          have := HH.out
          omega
      have HSR := Lib.hid hstr; clear hstr
      clear he
      go_wp2
      go_ret
      exact ⟨rfl, ⟨_, HW.out.set_uri _ _ HSR.out⟩, (KeepG.of_ext hb).set _ _⟩

set_option maxHeartbeats 2000000 in
set_option maxRecDepth 100000 in
theorem opt_nuri (g b : Nat) (a : AE) (A : Option Addr) (n c : Nat) (xs : List ByteArray) (nf : List UInt8 → List UInt8) (w : World) (hE : EngIs w g a) (hC : CapS w g b A n c xs)
    (hlen : ∀ x ∈ xs, (nf (bl x)).length ≤ 2147483647)
    (hN : ∀ x ∈ xs, ∀ w', Ext w w' → Calls Tryz.prog 52 #[.string x] w' (NormPost (nf (bl x)) w')) :
    Calls Tryz.prog 53 #[.pointer (some ⟨g, 0, none⟩), .pointer (some ⟨b, 0, none⟩)] w (OptPost g { a with nuri := xs.map fun x => nf (bl x) } w) := by
  have HE := Lib.hid hE; clear hE
  have HC := Lib.hid hC; clear hC
  have HN := Lib.hid hN; clear hN
  have HLN := Lib.hid hlen; clear hlen
  obtain ⟨ys, hys⟩ : ∃ ys : List ByteArray, ys = xs.map fun x => mk (nf (bl x)) := ⟨_, rfl⟩
  have HY := Lib.hid hys
  have hyl : Hid (ys.length = n) := by unfold Hid; rw [hys, List.length_map]; exact HC.out.rd.1
  clear hys
  have hn : n ≤ 20 := HC.out.few
  obtain ⟨i0, hi, hz0, hz1, hz2⟩ := info_parts info_string
  have cb0 : w.cell? ⟨b, 0, none⟩ = some (.slice A n c) := HC.out.blk.cell 0
  go_enter Tryz.func53, Tryz.ntmps53
  go_wp2_with (at_make; refine wpList_make_full _ rfl (.tmp 10) (.tmp 10) 22 rfl w.heap.size 9 i0 (.string ⟨#[]⟩) 1 Tryz.underlying22 hi hz0 hz1 .i64 .i64 n n n rfl rfl rfl rfl (by rw [hz2]; omega) (by unfold maxLen; omega) (Nat.le_refl _) ?_; intro w1 hown hgrow; have cb1 : w1.cell? ⟨b, 0, none⟩ = some (.slice A n c) := (HC.out.blk.ext (ext_none hgrow)).cell 0)
  have hx1 : Ext w w1 := ext_none hgrow
  obtain ⟨h, hh⟩ : ∃ h, h = w.heap.size := ⟨_, rfl⟩
  have HH := Lib.hid hh
  rw [← hh] at hown
  rw [made_row, ← hyl.out, ← rowTo_zero] at hown
  clear hgrow cb0 cb1
  rw [← hh]
  clear hh
  go_wp2
  go_loopw [5, 6, 7, 8, 14] (fun _ _ _ _ i wr => ∃ k : Nat, i = .int .i64 k ∧ k ≤ n ∧ wr.ownsRow h 9 1 (.slice (some ⟨h, 0, none⟩) n n) ys.length (rowTo ys k) ∧ Ext w wr) (fun _ _ _ _ i _ => n - (intOf i).toNat)
  case atStart => exact ⟨0, rfl, by omega, by rw [hyl.out] at hown ⊢; exact hown, hx1⟩
  case round =>
    obtain ⟨k, rfl, hk, hown, hb⟩ := hrel
    by_cases hlt : k < n
    · have hkx : k < xs.length := by rw [HC.out.rd.1]; exact hlt
      have hky : k < ys.length := by rw [hyl.out]; exact hlt
      obtain ⟨ad, rfl, hck⟩ := (HC.out.rd.ext hb).2.2 k hkx
      obtain ⟨x, hx⟩ : ∃ x, x = xs[k] := ⟨_, rfl⟩
      rw [← hx] at hck
      have hxm : x ∈ xs := by rw [hx]; exact List.getElem_mem hkx
      have HYK : Hid (ys[k] = mk (nf (bl x))) := by
        have h2 := HY.out
        subst h2
        unfold Hid
        rw [List.getElem_map, hx]
      clear hx
      have HOW := Lib.hid hown; clear hown
      go_wp2_with fail
      refine (HN.out x hxm _ hb).mono ?_
      rintro e w2 ⟨rfl, hb2⟩
      have hown2 := own_ext HOW.out hb2
      rw [hyl.out] at hown2
      have hcell : w2.cell? ⟨h, k, none⟩ = some (.string ⟨#[]⟩) := by rw [hown2.cellAt k (by omega)]; exact rowTo_get ys k hky
      have hfr : w2.frozen? ⟨h, k, none⟩ = false := hown2.frozenAt k
      have hst := (hown2.stored k (.string (mk (nf (bl x))))).1
      rw [← HYK.out, rowTo_set ys k hky, HYK.out] at hst
      have HST := Lib.hid hst; clear hst hown2
      go_wp2
      go_roundw
      case rel => exact ⟨k + 1, by go_num, by omega, by rw [hyl.out]; exact HST.out, Below.setCell (hb.tr hb2) (by rw [HH.out]; exact Nat.le_refl _) _⟩
      case measure => simp [intOf]; omega
    · obtain rfl : k = n := by omega
      rw [show rowTo ys k = rowTo ys ys.length from by rw [hyl.out], rowTo_all, hyl.out] at hown
      obtain ⟨e, he⟩ := HE.out
      have heW := he.ext hb
      have hgl := heW.blk.lt
      have hgw := he.blk.lt
      have HOW := Lib.hid hown; clear hown
      have hcell : wr.cell? ⟨g, 11, none⟩ = some e.nuri := heW.blk.cell 11
      have hfr : wr.frozen? ⟨g, 11, none⟩ = false := heW.blk.frozen 11
      have HW := Lib.hid heW; clear heW
      have hstr : StrF wr g (.slice (some ⟨h, 0, none⟩) k k) (xs.map fun x => nf (bl x)) := by
        obtain ⟨A2, c2, hv2, hrd2⟩ := own_rdS HOW.out (by omega)
        injection hv2 with hA hB hC2
        subst hA hC2
        refine ⟨some ⟨h, 0, none⟩, k, k, ys, rfl, hrd2, ?_, ?_, ?_⟩
        · rw [HY.out, List.map_map]; exact List.map_congr_left fun x _ => bl_mk _
        · intro x hx
          rw [HY.out] at hx
          obtain ⟨z, hz, rfl⟩ := List.mem_map.1 hx
          rw [size_mk]; exact HLN.out z hz
        · intro ad had _ he2
          injection had with had
          subst had
          have : h = g := he2
          have := HH.out
          omega
      have HSR := Lib.hid hstr; clear hstr
      clear he
      go_wp2
      go_ret
      exact ⟨rfl, ⟨_, HW.out.set_nuri _ _ HSR.out⟩, (KeepG.of_ext hb).set _ _⟩

set_option maxHeartbeats 2000000 in
set_option maxRecDepth 100000 in
theorem opt_cn (g b : Nat) (a : AE) (A : Option Addr) (n c : Nat) (xs : List ByteArray) (nf : List UInt8 → List UInt8) (w : World) (hE : EngIs w g a) (hC : CapS w g b A n c xs)
    (hlen : ∀ x ∈ xs, (nf (bl x)).length ≤ 2147483647)
    (hN : ∀ x ∈ xs, ∀ w', Ext w w' → Calls Tryz.prog 55 #[.string x] w' (NormPost (nf (bl x)) w')) :
    Calls Tryz.prog 54 #[.pointer (some ⟨g, 0, none⟩), .pointer (some ⟨b, 0, none⟩)] w (OptPost g { a with cn := xs.map fun x => nf (bl x) } w) := by
  have HE := Lib.hid hE; clear hE
  have HC := Lib.hid hC; clear hC
  have HN := Lib.hid hN; clear hN
  have HLN := Lib.hid hlen; clear hlen
  obtain ⟨ys, hys⟩ : ∃ ys : List ByteArray, ys = xs.map fun x => mk (nf (bl x)) := ⟨_, rfl⟩
  have HY := Lib.hid hys
  have hyl : Hid (ys.length = n) := by unfold Hid; rw [hys, List.length_map]; exact HC.out.rd.1
  clear hys
  have hn : n ≤ 20 := HC.out.few
  obtain ⟨i0, hi, hz0, hz1, hz2⟩ := info_parts info_string
  have cb0 : w.cell? ⟨b, 0, none⟩ = some (.slice A n c) := HC.out.blk.cell 0
  go_enter Tryz.func54, Tryz.ntmps54
  go_wp2_with (at_make; refine wpList_make_full _ rfl (.tmp 10) (.tmp 10) 22 rfl w.heap.size 9 i0 (.string ⟨#[]⟩) 1 Tryz.underlying22 hi hz0 hz1 .i64 .i64 n n n rfl rfl rfl rfl (by rw [hz2]; omega) (by unfold maxLen; omega) (Nat.le_refl _) ?_; intro w1 hown hgrow; have cb1 : w1.cell? ⟨b, 0, none⟩ = some (.slice A n c) := (HC.out.blk.ext (ext_none hgrow)).cell 0)
  have hx1 : Ext w w1 := ext_none hgrow
  obtain ⟨h, hh⟩ : ∃ h, h = w.heap.size := ⟨_, rfl⟩
  have HH := Lib.hid hh
  rw [← hh] at hown
  rw [made_row, ← hyl.out, ← rowTo_zero] at hown
  clear hgrow cb0 cb1
  rw [← hh]
  clear hh
  go_wp2
  go_loopw [5, 6, 7, 8, 14] (fun _ _ _ _ i wr => ∃ k : Nat, i = .int .i64 k ∧ k ≤ n ∧ wr.ownsRow h 9 1 (.slice (some ⟨h, 0, none⟩) n n) ys.length (rowTo ys k) ∧ Ext w wr) (fun _ _ _ _ i _ => n - (intOf i).toNat)
  case atStart => exact ⟨0, rfl, by omega, by rw [hyl.out] at hown ⊢; exact hown, hx1⟩
  case round =>
    obtain ⟨k, rfl, hk, hown, hb⟩ := hrel
    by_cases hlt : k < n
    · have hkx : k < xs.length := by rw [HC.out.rd.1]; exact hlt
      have hky : k < ys.length := by rw [hyl.out]; exact hlt
      obtain ⟨ad, rfl, hck⟩ := (HC.out.rd.ext hb).2.2 k hkx
      obtain ⟨x, hx⟩ : ∃ x, x = xs[k] := ⟨_, rfl⟩
      rw [← hx] at hck
      have hxm : x ∈ xs := by rw [hx]; exact List.getElem_mem hkx
      have HYK : Hid (ys[k] = mk (nf (bl x))) := by
        have h2 := HY.out
        subst h2
        unfold Hid
        rw [List.getElem_map, hx]
      clear hx
      have HOW := Lib.hid hown; clear hown
      go_wp2_with fail
      refine (HN.out x hxm _ hb).mono ?_
      rintro e w2 ⟨rfl, hb2⟩
      have hown2 := own_ext HOW.out hb2
      rw [hyl.out] at hown2
      have hcell : w2.cell? ⟨h, k, none⟩ = some (.string ⟨#[]⟩) := by rw [hown2.cellAt k (by omega)]; exact rowTo_get ys k hky
      have hfr : w2.frozen? ⟨h, k, none⟩ = false := hown2.frozenAt k
      have hst := (hown2.stored k (.string (mk (nf (bl x))))).1
      rw [← HYK.out, rowTo_set ys k hky, HYK.out] at hst
      have HST := Lib.hid hst; clear hst hown2
      go_wp2
      go_roundw
      case rel => exact ⟨k + 1, by go_num, by omega, by rw [hyl.out]; exact HST.out, Below.setCell (hb.tr hb2) (by rw [HH.out]; exact Nat.le_refl _) _⟩
      case measure => simp [intOf]; omega
    · obtain rfl : k = n := by omega
      rw [show rowTo ys k = rowTo ys ys.length from by rw [hyl.out], rowTo_all, hyl.out] at hown
      obtain ⟨e, he⟩ := HE.out
      have heW := he.ext hb
      have hgl := heW.blk.lt
      have hgw := he.blk.lt
      have HOW := Lib.hid hown; clear hown
      have hcell : wr.cell? ⟨g, 2, none⟩ = some e.cn := heW.blk.cell 2
      have hfr : wr.frozen? ⟨g, 2, none⟩ = false := heW.blk.frozen 2
      have HW := Lib.hid heW; clear heW
      have hstr : StrF wr g (.slice (some ⟨h, 0, none⟩) k k) (xs.map fun x => nf (bl x)) := by
        obtain ⟨A2, c2, hv2, hrd2⟩ := own_rdS HOW.out (by omega)
        injection hv2 with hA hB hC2
        subst hA hC2
        refine ⟨some ⟨h, 0, none⟩, k, k, ys, rfl, hrd2, ?_, ?_, ?_⟩
        · rw [HY.out, List.map_map]; exact List.map_congr_left fun x _ => bl_mk _
        · intro x hx
          rw [HY.out] at hx
          obtain ⟨z, hz, rfl⟩ := List.mem_map.1 hx
          rw [size_mk]; exact HLN.out z hz
        · intro ad had _ he2
          injection had with had
          subst had
          have : h = g := he2
          have := HH.out
          omega
      have HSR := Lib.hid hstr; clear hstr
      clear he
      go_wp2
      go_ret
      exact ⟨rfl, ⟨_, HW.out.set_cn _ _ HSR.out⟩, (KeepG.of_ext hb).set _ _⟩

set_option maxHeartbeats 2000000 in
set_option maxRecDepth 100000 in
theorem opt_ncn (g b : Nat) (a : AE) (A : Option Addr) (n c : Nat) (xs : List ByteArray) (nf : List UInt8 → List UInt8) (w : World) (hE : EngIs w g a) (hC : CapS w g b A n c xs)
    (hlen : ∀ x ∈ xs, (nf (bl x)).length ≤ 2147483647)
    (hN : ∀ x ∈ xs, ∀ w', Ext w w' → Calls Tryz.prog 55 #[.string x] w' (NormPost (nf (bl x)) w')) :
    Calls Tryz.prog 56 #[.pointer (some ⟨g, 0, none⟩), .pointer (some ⟨b, 0, none⟩)] w (OptPost g { a with ncn := xs.map fun x => nf (bl x) } w) := by
  have HE := Lib.hid hE; clear hE
  have HC := Lib.hid hC; clear hC
  have HN := Lib.hid hN; clear hN
  have HLN := Lib.hid hlen; clear hlen
  obtain ⟨ys, hys⟩ : ∃ ys : List ByteArray, ys = xs.map fun x => mk (nf (bl x)) := ⟨_, rfl⟩
  have HY := Lib.hid hys
  have hyl : Hid (ys.length = n) := by unfold Hid; rw [hys, List.length_map]; exact HC.out.rd.1
  clear hys
  have hn : n ≤ 20 := HC.out.few
  obtain ⟨i0, hi, hz0, hz1, hz2⟩ := info_parts info_string
  have cb0 : w.cell? ⟨b, 0, none⟩ = some (.slice A n c) := HC.out.blk.cell 0
  go_enter Tryz.func56, Tryz.ntmps56
  go_wp2_with (at_make; refine wpList_make_full _ rfl (.tmp 10) (.tmp 10) 22 rfl w.heap.size 9 i0 (.string ⟨#[]⟩) 1 Tryz.underlying22 hi hz0 hz1 .i64 .i64 n n n rfl rfl rfl rfl (by rw [hz2]; omega) (by unfold maxLen; omega) (Nat.le_refl _) ?_; intro w1 hown hgrow; have cb1 : w1.cell? ⟨b, 0, none⟩ = some (.slice A n c) := (HC.out.blk.ext (ext_none hgrow)).cell 0)
  have hx1 : Ext w w1 := ext_none hgrow
  obtain ⟨h, hh⟩ : ∃ h, h = w.heap.size := ⟨_, rfl⟩
  have HH := Lib.hid hh
  rw [← hh] at hown
  rw [made_row, ← hyl.out, ← rowTo_zero] at hown
  clear hgrow cb0 cb1
  rw [← hh]
  clear hh
  go_wp2
  go_loopw [5, 6, 7, 8, 14] (fun _ _ _ _ i wr => ∃ k : Nat, i = .int .i64 k ∧ k ≤ n ∧ wr.ownsRow h 9 1 (.slice (some ⟨h, 0, none⟩) n n) ys.length (rowTo ys k) ∧ Ext w wr) (fun _ _ _ _ i _ => n - (intOf i).toNat)
  case atStart => exact ⟨0, rfl, by omega, by rw [hyl.out] at hown ⊢; exact hown, hx1⟩
  case round =>
    obtain ⟨k, rfl, hk, hown, hb⟩ := hrel
    by_cases hlt : k < n
    · have hkx : k < xs.length := by rw [HC.out.rd.1]; exact hlt
      have hky : k < ys.length := by rw [hyl.out]; exact hlt
      obtain ⟨ad, rfl, hck⟩ := (HC.out.rd.ext hb).2.2 k hkx
      obtain ⟨x, hx⟩ : ∃ x, x = xs[k] := ⟨_, rfl⟩
      rw [← hx] at hck
      have hxm : x ∈ xs := by rw [hx]; exact List.getElem_mem hkx
      have HYK : Hid (ys[k] = mk (nf (bl x))) := by
        have h2 := HY.out
        subst h2
        unfold Hid
        rw [List.getElem_map, hx]
      clear hx
      have HOW := Lib.hid hown; clear hown
      go_wp2_with fail
      refine (HN.out x hxm _ hb).mono ?_
      rintro e w2 ⟨rfl, hb2⟩
      have hown2 := own_ext HOW.out hb2
      rw [hyl.out] at hown2
      have hcell : w2.cell? ⟨h, k, none⟩ = some (.string ⟨#[]⟩) := by rw [hown2.cellAt k (by omega)]; exact rowTo_get ys k hky
      have hfr : w2.frozen? ⟨h, k, none⟩ = false := hown2.frozenAt k
      have hst := (hown2.stored k (.string (mk (nf (bl x))))).1
      rw [← HYK.out, rowTo_set ys k hky, HYK.out] at hst
      have HST := Lib.hid hst; clear hst hown2
      go_wp2
      go_roundw
      case rel => exact ⟨k + 1, by go_num, by omega, by rw [hyl.out]; exact HST.out, Below.setCell (hb.tr hb2) (by rw [HH.out]; exact Nat.le_refl _) _⟩
      case measure => simp [intOf]; omega
    · obtain rfl : k = n := by omega
      rw [show rowTo ys k = rowTo ys ys.length from by rw [hyl.out], rowTo_all, hyl.out] at hown
      obtain ⟨e, he⟩ := HE.out
      have heW := he.ext hb
      have hgl := heW.blk.lt
      have hgw := he.blk.lt
      have HOW := Lib.hid hown; clear hown
      have hcell : wr.cell? ⟨g, 3, none⟩ = some e.ncn := heW.blk.cell 3
      have hfr : wr.frozen? ⟨g, 3, none⟩ = false := heW.blk.frozen 3
      have HW := Lib.hid heW; clear heW
      have hstr : StrF wr g (.slice (some ⟨h, 0, none⟩) k k) (xs.map fun x => nf (bl x)) := by
        obtain ⟨A2, c2, hv2, hrd2⟩ := own_rdS HOW.out (by omega)
        injection hv2 with hA hB hC2
        subst hA hC2
        refine ⟨some ⟨h, 0, none⟩, k, k, ys, rfl, hrd2, ?_, ?_, ?_⟩
        · rw [HY.out, List.map_map]; exact List.map_congr_left fun x _ => bl_mk _
        · intro x hx
          rw [HY.out] at hx
          obtain ⟨z, hz, rfl⟩ := List.mem_map.1 hx
          rw [size_mk]; exact HLN.out z hz
        · intro ad had _ he2
          injection had with had
          subst had
          have : h = g := he2
          have := HH.out
          omega
      have HSR := Lib.hid hstr; clear hstr
      clear he
      go_wp2
      go_ret
      exact ⟨rfl, ⟨_, HW.out.set_ncn _ _ HSR.out⟩, (KeepG.of_ext hb).set _ _⟩

theorem opt_pr (g b : Nat) (a : AE) (A : Option Addr) (n c : Nat) (xs : List ByteArray) (w : World) (hE : EngIs w g a) (hC : CapS w g b A n c xs) :
    Calls Tryz.prog 57 #[.pointer (some ⟨g, 0, none⟩), .pointer (some ⟨b, 0, none⟩)] w (OptPost g { a with pr := xs.map bl } w) := by
  obtain ⟨e, he⟩ := hE
  have cb0 : w.cell? ⟨b, 0, none⟩ = some (.slice A n c) := hC.blk.cell 0
  have hcell : w.cell? ⟨g, 12, none⟩ = some e.pr := he.blk.cell 12
  have hfr : w.frozen? ⟨g, 12, none⟩ = false := he.blk.frozen 12
  have HSR : Hid (StrF w g (.slice A n c) (xs.map bl)) := ⟨A, n, c, xs, rfl, hC.rd, rfl, hC.small, hC.far⟩
  have HW := Lib.hid he; clear he hC
  go_enter Tryz.func57, Tryz.ntmps57
  go_wp2
  go_ret
  exact ⟨rfl, ⟨_, HW.out.set_pr _ _ HSR.out⟩, (KeepG.of_ext (Ext.refl w)).set _ _⟩

theorem opt_npr (g b : Nat) (a : AE) (A : Option Addr) (n c : Nat) (xs : List ByteArray) (w : World) (hE : EngIs w g a) (hC : CapS w g b A n c xs) :
    Calls Tryz.prog 58 #[.pointer (some ⟨g, 0, none⟩), .pointer (some ⟨b, 0, none⟩)] w (OptPost g { a with npr := xs.map bl } w) := by
  obtain ⟨e, he⟩ := hE
  have cb0 : w.cell? ⟨b, 0, none⟩ = some (.slice A n c) := hC.blk.cell 0
  have hcell : w.cell? ⟨g, 13, none⟩ = some e.npr := he.blk.cell 13
  have hfr : w.frozen? ⟨g, 13, none⟩ = false := he.blk.frozen 13
  have HSR : Hid (StrF w g (.slice A n c) (xs.map bl)) := ⟨A, n, c, xs, rfl, hC.rd, rfl, hC.small, hC.far⟩
  have HW := Lib.hid he; clear he hC
  go_enter Tryz.func58, Tryz.ntmps58
  go_wp2
  go_ret
  exact ⟨rfl, ⟨_, HW.out.set_npr _ _ HSR.out⟩, (KeepG.of_ext (Ext.refl w)).set _ _⟩

theorem opt_lit (g : Nat) (a : AE) (w : World) (hE : EngIs w g a) :
    Calls Tryz.prog 59 #[.pointer (some ⟨g, 0, none⟩)] w (OptPost g { a with lit := true } w) := by
  obtain ⟨e, he⟩ := hE
  have hcell : w.cell? ⟨g, 1, none⟩ = some (.bool a.lit) := he.blk.cell 1
  have hfr : w.frozen? ⟨g, 1, none⟩ = false := he.blk.frozen 1
  have HW := Lib.hid he; clear he
  go_enter Tryz.func59, Tryz.ntmps59
  go_wp2
  go_ret
  exact ⟨rfl, ⟨_, HW.out.set_lit true⟩, (KeepG.of_ext (Ext.refl w)).set _ _⟩

theorem opt_ver (g : Nat) (a : AE) (w : World) (hE : EngIs w g a) :
    Calls Tryz.prog 60 #[.pointer (some ⟨g, 0, none⟩)] w (OptPost g { a with ver := true } w) := by
  obtain ⟨e, he⟩ := hE
  have hcell : w.cell? ⟨g, 0, none⟩ = some (.bool a.ver) := he.blk.cell 0
  have hfr : w.frozen? ⟨g, 0, none⟩ = false := he.blk.frozen 0
  have HW := Lib.hid he; clear he
  go_enter Tryz.func60, Tryz.ntmps60
  go_wp2
  go_ret
  exact ⟨rfl, ⟨_, HW.out.set_ver true⟩, (KeepG.of_ext (Ext.refl w)).set _ _⟩
end Go.Proofs.YtedniebpabfglaaGreatDoor
