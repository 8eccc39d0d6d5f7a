/- The walks of the options of addresses: each lays the nets of its texts into the engine. The walk of removeDuplicateIPNets at nets of four bytes; the nets of texts are such. -/
import Derived.Test.YtedniebpabfglaaGreatDoorIp
import Derived.Test.YtedniebpabfglaaGreatDoorOpt2
import Derived.Test.YtedniebpabfglaaGreatDoorPlain6
import Derived.Test.YtedniebpabfglaaGreatDoorNs
section
namespace Go.Proofs.YtedniebpabfglaaGreatDoor
open Go.RowKit

/-- The nets that lie in the first cells of a row, away from block g. -/
def NetTo (w : World) (g : Nat) (xs : List ByteArray) (vs : List Value) : Prop := ∀ j, j < vs.length → (hx : j < xs.length) → ∃ v, vs[j]? = some v ∧ NetP w g v (netOf (bl xs[j]))
theorem NetTo.ext {w w' : World} {g : Nat} {xs : List ByteArray} {vs : List Value} (h : NetTo w g xs vs) (hx : Ext w w') : NetTo w' g xs vs := fun j hj hl => by
  obtain ⟨v, h1, h2⟩ := h j hj hl
  exact ⟨v, h1, h2.ext hx⟩
theorem NetTo.snoc {w : World} {g : Nat} {xs : List ByteArray} {vs : List Value} {v : Value} (h : NetTo w g xs vs) (hv : ∀ hx : vs.length < xs.length, NetP w g v (netOf (bl xs[vs.length]))) : NetTo w g xs (vs ++ [v]) := fun j hj hl => by
  rw [List.length_append, List.length_singleton] at hj
  rcases Nat.lt_or_ge j vs.length with hlt | hge
  · obtain ⟨u, h1, h2⟩ := h j hlt hl
    exact ⟨u, by rw [List.getElem?_append_left hlt]; exact h1, h2⟩
  · obtain rfl : j = vs.length := by omega
    exact ⟨v, by rw [List.getElem?_append_right (Nat.le_refl _), Nat.sub_self]; rfl, hv hl⟩
theorem bytF_set2 {w : World} {g h : Nat} {v : Value} {l : List UInt8} (h1 : BytF w g v l) (h2 : BytF w h v l) (i : Nat) (u : Value) : BytF (w.setCell ⟨h, i, none⟩ u) g v l := by
  obtain ⟨b, p, c, rfl, a2, a3, a4⟩ := h1
  obtain ⟨b', p', c', e, c2, c3, c4⟩ := h2
  injection e with e _ _; injection e with e; injection e with e _ _
  subst e
  exact ⟨b, p, c, rfl, a2, a3, fun j hj => by rw [World.cell?_setCell_other _ _ _ _ (fun h => c3 (congrArg Addr.block h).symm)]; exact a4 j hj⟩
theorem netP_set2 {w : World} {g h : Nat} {v : Value} {t : Net} (h1 : NetP w g v t) (h2 : NetP w h v t) (i : Nat) (u : Value) : NetP (w.setCell ⟨h, i, none⟩ u) g v t := by
  obtain ⟨b, v0, v1, rfl, a2, a3, a4, a5, a6⟩ := h1
  obtain ⟨b', v0', v1', e, c2, c3, c4, c5, c6⟩ := h2
  injection e with e; injection e with e; injection e with e _ _
  subst e
  obtain rfl : v0 = v0' := Option.some.inj (a3.symm.trans c3)
  obtain rfl : v1 = v1' := Option.some.inj (a4.symm.trans c4)
  refine ⟨b, v0, v1, rfl, a2, ?_, ?_, bytF_set2 a5 c5 i u, bytF_set2 a6 c6 i u⟩
  · rw [World.cell?_setCell_other _ _ _ _ (fun h => c2 (congrArg Addr.block h).symm)]; exact a3
  · rw [World.cell?_setCell_other _ _ _ _ (fun h => c2 (congrArg Addr.block h).symm)]; exact a4
theorem NetTo.set2 {w : World} {g h : Nat} {xs : List ByteArray} {vs : List Value} (h1 : NetTo w g xs vs) (h2 : NetTo w h xs vs) (i : Nat) (u : Value) : NetTo (w.setCell ⟨h, i, none⟩ u) g xs vs := fun j hj hl => by
  obtain ⟨v, a1, a2⟩ := h1 j hj hl
  obtain ⟨v', b1, b2⟩ := h2 j hj hl
  obtain rfl : v = v' := Option.some.inj (a1.symm.trans b1)
  exact ⟨v, a1, netP_set2 a2 b2 i u⟩
/-- A row of nets the first of which are laid. -/
def netRow (vs : List Value) (n : Nat) : List Value := vs ++ List.replicate (n - vs.length) (.pointer none)
theorem netRow_get (vs : List Value) (n : Nat) (h : vs.length < n) : (netRow vs n)[vs.length]? = some (.pointer none) := by
  unfold netRow
  rw [List.getElem?_append_right (Nat.le_refl _), Nat.sub_self, List.getElem?_replicate, if_pos (by omega)]
theorem netRow_set (vs : List Value) (n : Nat) (v : Value) (h : vs.length < n) : (netRow vs n).set vs.length v = netRow (vs ++ [v]) n := by
  unfold netRow
  rw [List.set_append_right _ _ (Nat.le_refl _), Nat.sub_self, show n - vs.length = (n - (vs.length + 1)) + 1 by omega, List.replicate_succ, List.set_cons_zero, List.length_append, List.length_singleton]
  simp
theorem netRow_all (vs : List Value) : netRow vs vs.length = vs := by simp [netRow]
theorem made_nets (n : Nat) : (madeCells (Value.cells (.pointer none)) (n * 1)).toList = netRow [] n := by
  rw [Nat.mul_one]; unfold netRow; rw [List.nil_append]; exact toList_madeCells_one _ _
theorem range_parts {x : ByteArray} (h : pRng x = true) : ((Pl.cutAt 47 (bl x)).2.2 = true ∧ Pl.isNum (Pl.cutAt 47 (bl x)).2.1 32 = true ∧ Pl.octsOk 4 (Pl.cutAt 47 (bl x)).1 = true ∧ netOf (bl x) = netC (Pl.octsV 4 (Pl.cutAt 47 (bl x)).1) (Pl.numVal (Pl.cutAt 47 (bl x)).2.1)) ∨
    ((Pl.cutAt 47 (bl x)).2.2 = false ∧ Pl.octsOk 4 (bl x) = true ∧ netOf (bl x) = netIP (Pl.octsV 4 (bl x))) := by
  unfold pRng Pl.isRange at h
  simp only [Bool.and_eq_true, Bool.or_eq_true, Bool.not_eq_true'] at h
  obtain ⟨h1, h2⟩ := h
  cases hc : (Pl.cutAt 47 (bl x)).2.2 with
  | true =>
    rw [hc] at h1
    exact .inl ⟨rfl, by simpa using h1, h2, by unfold netOf; rw [if_pos hc]⟩
  | false =>
    obtain ⟨he, _⟩ := Pl.cutAt_false 47 (bl x) hc
    rw [he] at h2
    exact .inr ⟨rfl, h2, by unfold netOf; rw [if_neg (by rw [hc]; decide)]⟩

set_option maxHeartbeats 4000000 in
set_option maxRecDepth 100000 in
theorem opt_ip (zb zo pb po pc g b : Nat) (a : AE) (A : Option Addr) (n c : Nat) (xs : List ByteArray) (w : World) (hE : EngIs w g a) (hC : CapS w g b A n c xs) (hr : ∀ x ∈ xs, pRng x = true) (ht : IpTab zb zo pb po pc w) :
    Calls Tryz.prog 42 #[.pointer (some ⟨g, 0, none⟩), .pointer (some ⟨b, 0, none⟩)] w (OptPost g { a with ip := xs.map fun x => netOf (bl x) } w) := by
  have HE := Lib.hid hE; clear hE
  have HC := Lib.hid hC; clear hC
  have HR := Lib.hid hr; clear hr
  have HT := Lib.hid ht; clear ht
  have hn : n ≤ 20 := HC.out.few
  obtain ⟨i0, hi, hz0, hz1, hz2⟩ := info_parts info_netp
  have cb0 : w.cell? ⟨b, 0, none⟩ = some (.slice A n c) := HC.out.blk.cell 0
  go_enter Tryz.func42, Tryz.ntmps42
  go_wp2_with (at_make; refine wpList_make_full _ rfl (.tmp 12) (.tmp 12) 56 rfl w.heap.size 60 i0 (.pointer none) 1 Tryz.underlying56 hi hz0 hz1 .i64 .i64 n n n rfl rfl rfl rfl (by rw [hz2]; omega) (by unfold maxLen; omega) (Nat.le_refl _) ?_; intro w1 hown hgrow; have cb1 := (ext_none hgrow).cell cb0)
  have hx1 : Ext w w1 := ext_none hgrow
  obtain ⟨h, hh⟩ : ∃ h, h = w.heap.size := ⟨_, rfl⟩
  have HH := Lib.hid hh
  rw [← hh] at hown
  rw [made_nets] at hown
  have hlth : h < w1.heap.size := by
    have := (hown.lt h rfl).2
    exact this
  have HLT := Lib.hid hlth
  have HO := Lib.hid hown
  have HX1 := Lib.hid hx1
  clear hgrow cb0 cb1 hown hx1 hlth
  rw [← hh]
  clear hh
  go_wp2
  go_loopw [5, 6, 7, 8, 9, 10, 16] (fun _ _ _ _ _ _ i wr => ∃ (k : Nat) (vs : List Value), i = .int .i64 k ∧ k ≤ n ∧ vs.length = k ∧ wr.ownsRow h 60 1 (.slice (some ⟨h, 0, none⟩) n n) n (netRow vs n) ∧ NetTo wr g xs vs ∧ NetTo wr h xs vs ∧ h < wr.heap.size ∧ Ext w wr) (fun _ _ _ _ _ _ i _ => n - (intOf i).toNat)
  case atStart => exact ⟨0, [], rfl, by omega, rfl, HO.out, fun j hj => by simp at hj, fun j hj => by simp at hj, HLT.out, HX1.out⟩
  case round =>
    obtain ⟨k, vs, rfl, hk, hvl, hown, hng, hnh, hhs, hb⟩ := hrel
    have HOW := Lib.hid hown; have HNG := Lib.hid hng; have HNH := Lib.hid hnh; have HB := Lib.hid hb
    have HBW := Lib.hid hb
    have HHS := Lib.hid hhs
    clear hhs
    clear hown hng hnh hb
    by_cases hlt : k < n
    · have hkx : k < xs.length := by rw [HC.out.rd.1]; exact hlt
      obtain ⟨ad, rfl, hck⟩ := (HC.out.rd.ext HBW.out).2.2 k hkx
      obtain ⟨x, hx⟩ : ∃ x, x = xs[k] := ⟨_, rfl⟩
      rw [← hx] at hck
      have HXM : Hid (x ∈ xs) := by unfold Hid; rw [hx]; exact List.getElem_mem hkx
      have hxs : x.size ≤ 2147483647 := HC.out.small x HXM.out
      have HGL : Hid (g < wr.heap.size ∧ h < wr.heap.size) := by
        obtain ⟨e, he⟩ := HE.out
        have h1 := he.blk.lt
        have h2 := HBW.out.size
        exact ⟨by omega, HHS.out⟩
      have HXK := Lib.hid hx
      clear hx
      -- what the store of a net comes to
      have HST : Hid (∀ w2 v, Ext wr w2 → NetP w2 g v (netOf (bl x)) → NetP w2 h v (netOf (bl x)) → w2.cell? ⟨h, k, none⟩ = some (.pointer none) ∧ w2.frozen? ⟨h, k, none⟩ = false ∧
          (w2.setCell ⟨h, k, none⟩ v).ownsRow h 60 1 (.slice (some ⟨h, 0, none⟩) n n) n (netRow (vs ++ [v]) n) ∧ NetTo (w2.setCell ⟨h, k, none⟩ v) g xs (vs ++ [v]) ∧ NetTo (w2.setCell ⟨h, k, none⟩ v) h xs (vs ++ [v]) ∧ h < (w2.setCell ⟨h, k, none⟩ v).heap.size ∧ Ext w (w2.setCell ⟨h, k, none⟩ v)) := by
        intro w2 v hw2 hv1 hv2
        have hown2 := own_ext HOW.out hw2
        have hcell : w2.cell? ⟨h, k, none⟩ = some (.pointer none) := by
          have h1 := hown2.cellAt k (by omega)
          rw [h1, ← hvl]
          exact netRow_get vs n (by omega)
        have hst := (hown2.stored k v).1
        have hset : (netRow vs n).set k v = netRow (vs ++ [v]) n := by
          rw [← hvl]
          exact netRow_set vs n v (by omega)
        rw [hset] at hst
        have hsn : ∀ (hx : vs.length < xs.length), NetP w2 g v (netOf (bl xs[vs.length])) := fun hx => by
          have e1 : xs[vs.length] = x := by rw [HXK.out]; congr 1
          rw [e1]; exact hv1
        have hsn2 : ∀ (hx : vs.length < xs.length), NetP w2 h v (netOf (bl xs[vs.length])) := fun hx => by
          have e1 : xs[vs.length] = x := by rw [HXK.out]; congr 1
          rw [e1]; exact hv2
        have n1 := (HNG.out.ext hw2).snoc hsn
        have n2 := (HNH.out.ext hw2).snoc hsn2
        exact ⟨hcell, hown2.frozenAt k, hst, n1.set2 n2 k v, n2.set2 n2 k v, by rw [World.size_setCell]; exact Nat.lt_of_lt_of_le HHS.out hw2.size, Below.setCell (HB.out.tr hw2) (by show w.heap.size ≤ h; rw [HH.out]; exact Nat.le_refl _) v⟩
      rcases range_parts (HR.out x HXM.out) with ⟨hc1, hc2, hc3, hc4⟩ | ⟨hc1, hc3, hc4⟩
      · have HC4 := Lib.hid hc4
        go_wp2_with fail
        refine (CIDR_yes zb zo pb po pc x _ hxs hc1 hc3 hc2 (HT.out.ext HBW.out)).mono ?_
        rintro e w2 ⟨⟨v0, bb, rfl, hnet⟩, hb2⟩
        rw [← hc4] at hnet
        obtain ⟨hcell, hfr, h1, h2, h3, h4, h5⟩ := HST.out w2 (.pointer (some ⟨bb, 0, none⟩)) hb2 (hnet g HGL.out.1) (hnet h HGL.out.2)
        have H1 := Lib.hid h1; have H2 := Lib.hid h2; have H3 := Lib.hid h3; have H4 := Lib.hid h4; have H5 := Lib.hid h5
        clear h1 h2 h3 h4 h5 hnet hc1 hc2 hc3 hc4
        go_wp2
        go_roundw
        case rel => exact ⟨k + 1, _, by go_num, by omega, by rw [List.length_append, hvl]; rfl, H1.out, H2.out, H3.out, H4.out, H5.out⟩
        case measure => simp [intOf]; omega
      · have HC4 := Lib.hid hc4
        go_wp2_with fail
        refine (CIDR_no x _ hxs hc1).mono ?_
        rintro e w2 ⟨⟨T, p, rfl⟩, hb2⟩
        have HB2 := Lib.hid hb2
        clear hb2
        go_wp2_with fail
        refine (ParseIP_ok zb zo pb po pc x _ hxs hc3 (HT.out.ext (HBW.out.tr HB2.out))).mono ?_
        rintro e w3 ⟨⟨gi, oa, ob, od, oq, ha, hb, hd, hq, hl, hgi, rfl, hblk⟩, hb3⟩
        have HB3 := Lib.hid (HB2.out.tr hb3)
        have hgi2 : wr.heap.size ≤ gi := Nat.le_trans HB2.out.size hgi
        clear hb3 hgi
        go_wp2_with fail
        refine (networkFor_16 gi 16 oa ob od oq _ _ (by omega) hblk ha hb hd hq).mono ?_
        rintro e w4 ⟨⟨bb, rfl, hnet⟩, hb4⟩
        have HB4 := Lib.hid (HB3.out.tr hb4)
        have hs3 := HB3.out.size
        obtain ⟨hcell, hfr, h1, h2, h3, h4, h5⟩ := HST.out w4 (.pointer (some ⟨bb, 0, none⟩)) HB4.out (by rw [hc4, hl]; exact hnet g (by have := HGL.out.1; omega) (by have := HGL.out.1; omega)) (by rw [hc4, hl]; exact hnet h (by have := HGL.out.2; omega) (by have := HGL.out.2; omega))
        have H1 := Lib.hid h1; have H2 := Lib.hid h2; have H3 := Lib.hid h3; have H4 := Lib.hid h4; have H5 := Lib.hid h5
        clear h1 h2 h3 h4 h5 hnet hc1 hc3 hc4 hblk hb4 hs3
        go_wp2
        go_roundw
        case rel => exact ⟨k + 1, _, by go_num, by omega, by rw [List.length_append, hvl]; rfl, H1.out, H2.out, H3.out, H4.out, H5.out⟩
        case measure => simp [intOf]; omega
    · obtain rfl : k = n := by omega
      have hall : netRow vs k = vs := by rw [← hvl]; exact netRow_all vs
      obtain ⟨e, he⟩ := HE.out
      have heW := he.ext HBW.out
      have hgl := heW.blk.lt
      have hgw := he.blk.lt
      have hcell : wr.cell? ⟨g, 6, none⟩ = some e.ip := heW.blk.cell 6
      have hfr : wr.frozen? ⟨g, 6, none⟩ = false := heW.blk.frozen 6
      have HW := Lib.hid heW; clear heW
      have hnet : NetF wr g (.slice (some ⟨h, 0, none⟩) k k) (xs.map fun x => netOf (bl x)) := by
        have hxl : xs.length = k := HC.out.rd.1
        refine ⟨some ⟨h, 0, none⟩, k, by rw [List.length_map, hxl], by rw [List.length_map]; omega, fun j hj => ?_⟩
        rw [List.length_map] at hj
        obtain ⟨v, hv1, hv2⟩ := HNG.out j (by omega) hj
        refine ⟨⟨h, 0, none⟩, v, rfl, by show h ≠ g; have := HH.out; omega, ?_, by rw [List.getElem_map]; exact hv2⟩
        have := HOW.out
        rw [hall] at this
        exact this.cells (g := h) rfl j v hv1
      have HSR := Lib.hid hnet; clear hnet
      clear he
      go_wp2
      go_ret
      exact ⟨rfl, ⟨_, HW.out.set_ip _ _ HSR.out⟩, (KeepG.of_ext HBW.out).set _ _⟩

set_option maxHeartbeats 4000000 in
set_option maxRecDepth 100000 in
theorem opt_nip (zb zo pb po pc g b : Nat) (a : AE) (A : Option Addr) (n c : Nat) (xs : List ByteArray) (w : World) (hE : EngIs w g a) (hC : CapS w g b A n c xs) (hr : ∀ x ∈ xs, pRng x = true) (ht : IpTab zb zo pb po pc w) :
    Calls Tryz.prog 47 #[.pointer (some ⟨g, 0, none⟩), .pointer (some ⟨b, 0, none⟩)] w (OptPost g { a with nip := xs.map fun x => netOf (bl x) } w) := by
  have HE := Lib.hid hE; clear hE
  have HC := Lib.hid hC; clear hC
  have HR := Lib.hid hr; clear hr
  have HT := Lib.hid ht; clear ht
  have hn : n ≤ 20 := HC.out.few
  obtain ⟨i0, hi, hz0, hz1, hz2⟩ := info_parts info_netp
  have cb0 : w.cell? ⟨b, 0, none⟩ = some (.slice A n c) := HC.out.blk.cell 0
  go_enter Tryz.func47, Tryz.ntmps47
  go_wp2_with (at_make; refine wpList_make_full _ rfl (.tmp 12) (.tmp 12) 56 rfl w.heap.size 60 i0 (.pointer none) 1 Tryz.underlying56 hi hz0 hz1 .i64 .i64 n n n rfl rfl rfl rfl (by rw [hz2]; omega) (by unfold maxLen; omega) (Nat.le_refl _) ?_; intro w1 hown hgrow; have cb1 := (ext_none hgrow).cell cb0)
  have hx1 : Ext w w1 := ext_none hgrow
  obtain ⟨h, hh⟩ : ∃ h, h = w.heap.size := ⟨_, rfl⟩
  have HH := Lib.hid hh
  rw [← hh] at hown
  rw [made_nets] at hown
  have hlth : h < w1.heap.size := by
    have := (hown.lt h rfl).2
    exact this
  have HLT := Lib.hid hlth
  have HO := Lib.hid hown
  have HX1 := Lib.hid hx1
  clear hgrow cb0 cb1 hown hx1 hlth
  rw [← hh]
  clear hh
  go_wp2
  go_loopw [5, 6, 7, 8, 9, 10, 16] (fun _ _ _ _ _ _ i wr => ∃ (k : Nat) (vs : List Value), i = .int .i64 k ∧ k ≤ n ∧ vs.length = k ∧ wr.ownsRow h 60 1 (.slice (some ⟨h, 0, none⟩) n n) n (netRow vs n) ∧ NetTo wr g xs vs ∧ NetTo wr h xs vs ∧ h < wr.heap.size ∧ Ext w wr) (fun _ _ _ _ _ _ i _ => n - (intOf i).toNat)
  case atStart => exact ⟨0, [], rfl, by omega, rfl, HO.out, fun j hj => by simp at hj, fun j hj => by simp at hj, HLT.out, HX1.out⟩
  case round =>
    obtain ⟨k, vs, rfl, hk, hvl, hown, hng, hnh, hhs, hb⟩ := hrel
    have HOW := Lib.hid hown; have HNG := Lib.hid hng; have HNH := Lib.hid hnh; have HB := Lib.hid hb
    have HBW := Lib.hid hb
    have HHS := Lib.hid hhs
    clear hhs
    clear hown hng hnh hb
    by_cases hlt : k < n
    · have hkx : k < xs.length := by rw [HC.out.rd.1]; exact hlt
      obtain ⟨ad, rfl, hck⟩ := (HC.out.rd.ext HBW.out).2.2 k hkx
      obtain ⟨x, hx⟩ : ∃ x, x = xs[k] := ⟨_, rfl⟩
      rw [← hx] at hck
      have HXM : Hid (x ∈ xs) := by unfold Hid; rw [hx]; exact List.getElem_mem hkx
      have hxs : x.size ≤ 2147483647 := HC.out.small x HXM.out
      have HGL : Hid (g < wr.heap.size ∧ h < wr.heap.size) := by
        obtain ⟨e, he⟩ := HE.out
        have h1 := he.blk.lt
        have h2 := HBW.out.size
        exact ⟨by omega, HHS.out⟩
      have HXK := Lib.hid hx
      clear hx
      -- what the store of a net comes to
      have HST : Hid (∀ w2 v, Ext wr w2 → NetP w2 g v (netOf (bl x)) → NetP w2 h v (netOf (bl x)) → w2.cell? ⟨h, k, none⟩ = some (.pointer none) ∧ w2.frozen? ⟨h, k, none⟩ = false ∧
          (w2.setCell ⟨h, k, none⟩ v).ownsRow h 60 1 (.slice (some ⟨h, 0, none⟩) n n) n (netRow (vs ++ [v]) n) ∧ NetTo (w2.setCell ⟨h, k, none⟩ v) g xs (vs ++ [v]) ∧ NetTo (w2.setCell ⟨h, k, none⟩ v) h xs (vs ++ [v]) ∧ h < (w2.setCell ⟨h, k, none⟩ v).heap.size ∧ Ext w (w2.setCell ⟨h, k, none⟩ v)) := by
        intro w2 v hw2 hv1 hv2
        have hown2 := own_ext HOW.out hw2
        have hcell : w2.cell? ⟨h, k, none⟩ = some (.pointer none) := by
          have h1 := hown2.cellAt k (by omega)
          rw [h1, ← hvl]
          exact netRow_get vs n (by omega)
        have hst := (hown2.stored k v).1
        have hset : (netRow vs n).set k v = netRow (vs ++ [v]) n := by
          rw [← hvl]
          exact netRow_set vs n v (by omega)
        rw [hset] at hst
        have hsn : ∀ (hx : vs.length < xs.length), NetP w2 g v (netOf (bl xs[vs.length])) := fun hx => by
          have e1 : xs[vs.length] = x := by rw [HXK.out]; congr 1
          rw [e1]; exact hv1
        have hsn2 : ∀ (hx : vs.length < xs.length), NetP w2 h v (netOf (bl xs[vs.length])) := fun hx => by
          have e1 : xs[vs.length] = x := by rw [HXK.out]; congr 1
          rw [e1]; exact hv2
        have n1 := (HNG.out.ext hw2).snoc hsn
        have n2 := (HNH.out.ext hw2).snoc hsn2
        exact ⟨hcell, hown2.frozenAt k, hst, n1.set2 n2 k v, n2.set2 n2 k v, by rw [World.size_setCell]; exact Nat.lt_of_lt_of_le HHS.out hw2.size, Below.setCell (HB.out.tr hw2) (by show w.heap.size ≤ h; rw [HH.out]; exact Nat.le_refl _) v⟩
      rcases range_parts (HR.out x HXM.out) with ⟨hc1, hc2, hc3, hc4⟩ | ⟨hc1, hc3, hc4⟩
      · have HC4 := Lib.hid hc4
        go_wp2_with fail
        refine (CIDR_yes zb zo pb po pc x _ hxs hc1 hc3 hc2 (HT.out.ext HBW.out)).mono ?_
        rintro e w2 ⟨⟨v0, bb, rfl, hnet⟩, hb2⟩
        rw [← hc4] at hnet
        obtain ⟨hcell, hfr, h1, h2, h3, h4, h5⟩ := HST.out w2 (.pointer (some ⟨bb, 0, none⟩)) hb2 (hnet g HGL.out.1) (hnet h HGL.out.2)
        have H1 := Lib.hid h1; have H2 := Lib.hid h2; have H3 := Lib.hid h3; have H4 := Lib.hid h4; have H5 := Lib.hid h5
        clear h1 h2 h3 h4 h5 hnet hc1 hc2 hc3 hc4
        go_wp2
        go_roundw
        case rel => exact ⟨k + 1, _, by go_num, by omega, by rw [List.length_append, hvl]; rfl, H1.out, H2.out, H3.out, H4.out, H5.out⟩
        case measure => simp [intOf]; omega
      · have HC4 := Lib.hid hc4
        go_wp2_with fail
        refine (CIDR_no x _ hxs hc1).mono ?_
        rintro e w2 ⟨⟨T, p, rfl⟩, hb2⟩
        have HB2 := Lib.hid hb2
        clear hb2
        go_wp2_with fail
        refine (ParseIP_ok zb zo pb po pc x _ hxs hc3 (HT.out.ext (HBW.out.tr HB2.out))).mono ?_
        rintro e w3 ⟨⟨gi, oa, ob, od, oq, ha, hb, hd, hq, hl, hgi, rfl, hblk⟩, hb3⟩
        have HB3 := Lib.hid (HB2.out.tr hb3)
        have hgi2 : wr.heap.size ≤ gi := Nat.le_trans HB2.out.size hgi
        clear hb3 hgi
        go_wp2_with fail
        refine (networkFor_16 gi 16 oa ob od oq _ _ (by omega) hblk ha hb hd hq).mono ?_
        rintro e w4 ⟨⟨bb, rfl, hnet⟩, hb4⟩
        have HB4 := Lib.hid (HB3.out.tr hb4)
        have hs3 := HB3.out.size
        obtain ⟨hcell, hfr, h1, h2, h3, h4, h5⟩ := HST.out w4 (.pointer (some ⟨bb, 0, none⟩)) HB4.out (by rw [hc4, hl]; exact hnet g (by have := HGL.out.1; omega) (by have := HGL.out.1; omega)) (by rw [hc4, hl]; exact hnet h (by have := HGL.out.2; omega) (by have := HGL.out.2; omega))
        have H1 := Lib.hid h1; have H2 := Lib.hid h2; have H3 := Lib.hid h3; have H4 := Lib.hid h4; have H5 := Lib.hid h5
        clear h1 h2 h3 h4 h5 hnet hc1 hc3 hc4 hblk hb4 hs3
        go_wp2
        go_roundw
        case rel => exact ⟨k + 1, _, by go_num, by omega, by rw [List.length_append, hvl]; rfl, H1.out, H2.out, H3.out, H4.out, H5.out⟩
        case measure => simp [intOf]; omega
    · obtain rfl : k = n := by omega
      have hall : netRow vs k = vs := by rw [← hvl]; exact netRow_all vs
      obtain ⟨e, he⟩ := HE.out
      have heW := he.ext HBW.out
      have hgl := heW.blk.lt
      have hgw := he.blk.lt
      have hcell : wr.cell? ⟨g, 7, none⟩ = some e.nip := heW.blk.cell 7
      have hfr : wr.frozen? ⟨g, 7, none⟩ = false := heW.blk.frozen 7
      have HW := Lib.hid heW; clear heW
      have hnet : NetF wr g (.slice (some ⟨h, 0, none⟩) k k) (xs.map fun x => netOf (bl x)) := by
        have hxl : xs.length = k := HC.out.rd.1
        refine ⟨some ⟨h, 0, none⟩, k, by rw [List.length_map, hxl], by rw [List.length_map]; omega, fun j hj => ?_⟩
        rw [List.length_map] at hj
        obtain ⟨v, hv1, hv2⟩ := HNG.out j (by omega) hj
        refine ⟨⟨h, 0, none⟩, v, rfl, by show h ≠ g; have := HH.out; omega, ?_, by rw [List.getElem_map]; exact hv2⟩
        have := HOW.out
        rw [hall] at this
        exact this.cells (g := h) rfl j v hv1
      have HSR := Lib.hid hnet; clear hnet
      clear he
      go_wp2
      go_ret
      exact ⟨rfl, ⟨_, HW.out.set_nip _ _ HSR.out⟩, (KeepG.of_ext HBW.out).set _ _⟩

theorem optfor_ip_any (zb zo pb po pc : Nat) (w : World) (xs : List ByteArray) (hr : ∀ x ∈ xs, pRng x = true) (ht : IpTab zb zo pb po pc w) :
    OptFor w 42 xs (fun a => { a with ip := xs.map fun x => netOf (bl x) }) := by
  intro w1 b s hx hB hs hxs hn
  refine ⟨_, _, rfl, call_o_ip, fun g a w2 hw hg hE => ?_⟩
  subst hxs
  exact opt_ip zb zo pb po pc g b a s.A s.n s.c s.xs w2 hE (caps_of hB hs hn hw hg) hr (ht.ext (hx.tr hw))
theorem optfor_nip_any (zb zo pb po pc : Nat) (w : World) (xs : List ByteArray) (hr : ∀ x ∈ xs, pRng x = true) (ht : IpTab zb zo pb po pc w) :
    OptFor w 47 xs (fun a => { a with nip := xs.map fun x => netOf (bl x) }) := by
  intro w1 b s hx hB hs hxs hn
  refine ⟨_, _, rfl, call_o_nip, fun g a w2 hw hg hE => ?_⟩
  subst hxs
  exact opt_nip zb zo pb po pc g b a s.A s.n s.c s.xs w2 hE (caps_of hB hs hn hw hg) hr (ht.ext (hx.tr hw))
end Go.Proofs.YtedniebpabfglaaGreatDoor
end
section
namespace Go.Proofs.YtedniebpabfglaaGreatDoor
open Go.RowKit Go.Maps Go.WideMaps

theorem grow_of_ext {w w' : World} (h : Ext w w') : w.grownBy w' none := ⟨h.os, h.tape, h.output, h.size, fun k hk _ => h.block k hk⟩
theorem netC_good (l : List Nat) (n : Nat) (hn : n ≤ 32) : NetGood (netC l n) := ⟨⟨n, hn, rfl⟩, .inl rfl⟩
theorem netIP_good (l : List Nat) (hl : l.length = 4) : NetGood (netIP l) := ⟨⟨32, Nat.le_refl _, rfl⟩, .inr ⟨l.map u8, rfl, by rw [List.length_map, hl]⟩⟩
theorem netOf_good {x : ByteArray} (h : pRng x = true) : NetGood (netOf (bl x)) := by
  rcases range_parts h with ⟨_, hc2, _, hc4⟩ | ⟨_, _, hc4⟩
  · rw [hc4]; exact netC_good _ _ (Pl.isNum_get hc2).2.2.2
  · rw [hc4]; exact netIP_good _ (Pl.octsV_len 4 _)
set_option maxHeartbeats 8000000 in
set_option maxRecDepth 100000 in
theorem dupn_any (zb zo pb po pc g : Nat) (v : Value) (l : List Net) (w : World) (hg : g < w.heap.size) (ht : IpTab zb zo pb po pc w) (hv : NetF w g v l) (hfew : l.length ≤ 1000) (hgood : ∀ t ∈ l, NetGood t) :
    Calls Tryz.prog 62 #[v] w (DupN g l w) := by
  by_cases h1 : l.length ≤ 1
  · exact dupn_one g v l w hv h1
  obtain ⟨A, c, rfl, h2, h3⟩ := hv
  have HR := Lib.hid h3; have HT := Lib.hid ht; have HG := Lib.hid hgood
  clear h3 ht hgood
  have hmm := fun W => run_makeMap_hint (P := Tryz.prog) 101 9 102 .i64 (l.length : Int) Tryz.underlying101 W
  obtain ⟨i0, hi, hz0, hz1, hz2⟩ := info_parts info_netp
  obtain ⟨n, hn⟩ : ∃ n, n = l.length := ⟨_, rfl⟩
  rw [← hn] at h1 h2 hmm hfew ⊢
  have HN := Lib.hid hn; clear hn
  have h1i : ¬ (n : Int) ≤ 1 := by omega
  go_enter Tryz.func62, Tryz.ntmps62
  go_wp2_with (at_make; refine wpList_make_own _ rfl _ (.tmp 17) 56 rfl (w.heap.size + 1) 60 i0 (.pointer none) 1 Tryz.underlying56 hi hz0 hz1 .i64 .i64 n n rfl rfl rfl (by rw [hz2]; omega) (by unfold maxLen; omega) (by simp) ?_; intro w1 hown hgrow)
  have hx1 : Ext w w1 := ((Ext.refl w).alloc (.map #[] 0)).tr (ext_none hgrow)
  have hown0 : w1.ownsMap Tryz.prog 9 (unitElem (H := Unit)) w.heap.size 0 (setS []) := (World.ownsMap_made w Tryz.prog 9 _).kept hgrow (by simp)
  have hsz1 : w.heap.size + 1 ≤ w1.heap.size := by have := hgrow.size; simpa using this
  have HO := Lib.hid hown; have HM := Lib.hid hown0; have HX := Lib.hid hx1
  clear hown hown0 hx1 hgrow hmm
  go_wp2
  go_loopw [2, 5, 6, 7, 8, 21] (fun v _ _ _ _ i wr => ∃ (k : Nat) (ys : List ByteArray) (vs : List Value) (ts : List Net), i = .int .i64 k ∧ k ≤ n ∧ ys.length ≤ k ∧ vs.length = ts.length ∧ ts.length ≤ k ∧ (∀ j, (h : j < ts.length) → ∃ u, vs[j]? = some u ∧ NetP w g u ts[j]) ∧ wr.ownsMap Tryz.prog 9 (unitElem (H := Unit)) w.heap.size k (setS ys) ∧ wr.ownsRow (w.heap.size + 1) 60 1 v vs.length vs ∧ w.heap.size + 1 ≤ wr.heap.size ∧ Ext w wr) (fun _ _ _ _ _ i _ => n - (intOf i).toNat)
  case atStart => exact ⟨0, [], [], [], rfl, by omega, by simp, rfl, by simp, fun j h => by simp at h, HM.out, by simpa using HO.out, hsz1, HX.out⟩
  case round =>
    obtain ⟨k, ys, vs, ts, rfl, hk, hyk, hvt, htk, hnets, hown, hrow, hws, hb⟩ := hrel
    have HNT := Lib.hid hnets; clear hnets
    by_cases hlt : k < n
    · have hkx : k < l.length := by rw [← HN.out]; exact hlt
      obtain ⟨ad, u, rfl, _, hck0, hnp⟩ := HR.out k hkx
      have hck := hb.cell hck0
      have hgd : NetGood l[k] := HG.out _ (List.getElem_mem hkx)
      obtain ⟨t, htt⟩ : ∃ t, t = l[k] := ⟨_, rfl⟩
      rw [← htt] at hnp hgd
      obtain ⟨bb, v0, v1, rfl, hnp'⟩ := hnp
      have HNP : Hid (NetP w g (.pointer (some ⟨bb, 0, none⟩)) t) := ⟨bb, v0, v1, rfl, hnp'⟩
      have HS := Lib.hid (netString_any zb zo pb po pc g (.pointer (some ⟨bb, 0, none⟩)) t wr (HT.out.ext hb) (HNP.out.ext hb) hgd)
      have HOWN := Lib.hid hown; have HROW := Lib.hid hrow; have HB := Lib.hid hb
      clear htt hnp' hgd hck0 hown hrow hb
      go_wp2_with fail
      refine HS.out.mono ?_
      rintro e w2 ⟨⟨x, rfl, hxs⟩, hb2⟩
      have hown : w2.ownsMap Tryz.prog 9 (unitElem (H := Unit)) w.heap.size k (setS ys) := HOWN.out.kept (grow_of_ext hb2) (by simp)
      have hrow : w2.ownsRow (w.heap.size + 1) 60 1 _ vs.length vs := own_ext HROW.out hb2
      have hws2 : w.heap.size + 1 ≤ w2.heap.size := Nat.le_trans hws hb2.size
      have hb : Ext w w2 := HB.out.tr hb2
      have hkey : keyOf Tryz.prog 9 (.string x) = some (.string (bl x)) := keyOf_string_mk Tryz.underlying9 (by unfold maxLen; omega)
      clear hb2 HB HROW HOWN HS
      go_wp2_with (first
        | (at_lookup; refine wpList_lookup_own_unit _ rfl _ _ 101 rfl 9 102 lawS Tryz.underlying101 (zeroU _) w.heap.size k _ rfl hown _ _ rfl hkey ?_)
        | (at_mapUpdate; refine wpList_mapUpdate_own _ rfl _ _ _ 101 rfl 9 102 lawS Tryz.underlying101 (unitElem (H := Unit)) w.heap.size k _ rfl (hown.alloc _) (by unfold maxLen; omega) _ _ _ rfl rfl hkey _ [] unitElem_mk ?_; intro w1 hown1 hgrow1)
        | (at_builtin; refine wpList_append_own _ rfl _ _ 56 rfl (w.heap.size + 1) 60 i0 (.pointer none) 1 8 Tryz.underlying56 hi hz0 hz1 hz2 rfl (by decide) _ _ _ rfl (((hrow.alloc _).kept hgrow1 (Or.inr (row_ne hrow (Nat.lt_succ_self _)).symm)).alloc _) ⟨w1.heap.size, 0, none⟩ 1 1 [.pointer (some ⟨bb, 0, none⟩)] rfl rfl (one_new _ _ _) (by intro u hu; simp at hu; subst hu; rfl) (by unfold maxLen; omega) (by omega) (by have := hgrow1.size; simp at this ⊢; omega) ?_; intro v' w2' hown' hgrow2 hnil2))
      · have hh : Maps.has (setS ys) (Lit.string (bl x)) = true := by assumption
        go_roundw
        case rel => exact ⟨k + 1, ys, vs, ts, by go_num, by omega, by omega, hvt, by omega, HNT.out, (hown.alloc _).mono (Nat.le_succ _), hrow.alloc _, by simp; omega, hb.alloc _⟩
        case measure => simp [intOf]; omega
      · have hh : Maps.has (setS ys) (Lit.string (bl x)) = false := by assumption
        have hr1 := (hrow.alloc (.cells #[] 102)).kept hgrow1 (Or.inr (row_ne hrow (Nat.lt_succ_self _)).symm)
        have s1 := hgrow1.size
        have s2 := hgrow2.size
        simp at s1 s2
        go_roundw
        case rel =>
          refine ⟨k + 1, ys ++ [x], vs ++ [.pointer (some ⟨bb, 0, none⟩)], ts ++ [t], by go_num, by omega, by simp; omega, by simp [hvt], by simp; omega, ?_, ?_, ?_, by omega, ?_⟩
          · intro j hj
            rw [List.length_append, List.length_singleton] at hj
            rcases Nat.lt_or_ge j ts.length with hlt2 | hge2
            · obtain ⟨u, h1, h2⟩ := HNT.out j hlt2
              exact ⟨u, by rw [List.getElem?_append_left (by omega)]; exact h1, by rw [List.getElem_append_left hlt2]; exact h2⟩
            · obtain rfl : j = ts.length := by omega
              exact ⟨_, by rw [List.getElem?_append_right (by omega), hvt, Nat.sub_self]; rfl, by rw [List.getElem_append_right (Nat.le_refl _)]; simpa using HNP.out⟩
          · rw [setS_snoc]
            exact (hown1.alloc _).kept hgrow2 (row_ne hr1 (Nat.lt_succ_self _))
          · simpa using hown'
          · exact ((((hb.alloc _).grown hgrow1 (by simp; omega) (fun j hj => by cases hj; exact Nat.le_refl _)).alloc (by omega) _).grown hgrow2 (by simp; omega) (fun j hj => Nat.le_trans (Nat.le_succ _) (hr1.lt j hj).1))
        case measure => simp [intOf]; omega
    · have hkn : k = n := by omega
      obtain ⟨A2, c2, rfl⟩ := own_slice hrow
      have HROW := Lib.hid hrow; have HB := Lib.hid hb
      clear hrow hb hown
      have hnf : NetF wr g (.slice A2 vs.length c2) ts := by
        refine ⟨A2, c2, by rw [hvt], by omega, fun j hj => ?_⟩
        obtain ⟨u, h4, h5⟩ := HNT.out j hj
        obtain ⟨g2, cap2, hv2, hb2, _⟩ := HROW.out.form (by omega)
        injection hv2 with hA _ _
        subst hA
        have hbb := (HROW.out.lt g2 rfl).1
        refine ⟨⟨g2, 0, none⟩, u, rfl, by show g2 ≠ g; omega, HROW.out.cells (g := g2) rfl j u h4, h5.ext HB.out⟩
      have HNF := Lib.hid hnf; clear hnf
      go_wp2
      go_ret
      exact ⟨A2, _, c2, ts, rfl, HNF.out, ⟨fun h => by have := HN.out; omega, by rw [← HN.out]; omega⟩, HB.out⟩
end Go.Proofs.YtedniebpabfglaaGreatDoor
end
