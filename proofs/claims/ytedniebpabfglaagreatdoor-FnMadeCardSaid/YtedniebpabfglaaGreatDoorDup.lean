/- The walk of removeDuplicates: what comes back holds the same texts. -/
import Derived.Test.YtedniebpabfglaaGreatDoorOpts
import Derived.Maps.OwnSet
import Derived.StringKeys
namespace Go.Proofs.YtedniebpabfglaaGreatDoor
open Go.RowKit Go.Maps Go.WideMaps

theorem run_makeMap_hint {P : Program} (t k e : TypeId) (kd : IntKind) (n : Int) (ht : P.underlying t = some (.map k e)) (w : World) :
    (Instr.makeMap t (some (.int kd n))).run P w = .ok (.map (some w.heap.size)) (w.alloc (.map #[] 0)) := by
  simp [Instr.makeMap, run_underlying ht]; rfl
theorem lawS : Keyed Tryz.prog 9 := string_keyed Tryz.underlying9
theorem zeroU (w : World) : (zeroValue 102).run Tryz.prog w = .ok (.agg #[]) w := by kernel_rfl
/-- A set of texts. -/
def setS (ys : List ByteArray) : DataW Unit := setOf (.agg []) (ys.map fun y => Lit.string (bl y))
theorem setS_snoc (ys : List ByteArray) (x : ByteArray) : setS (ys ++ [x]) = (setS ys).put (.string (bl x)) (.agg []) := by unfold setS; rw [List.map_append, List.map_singleton, setOf_snoc]
theorem has_setS (ys : List ByteArray) (x : ByteArray) : Maps.has (setS ys) (.string (bl x)) = true ↔ x ∈ ys := by
  unfold setS
  rw [has_setOf _ _ _ (fun y hy => by obtain ⟨_, _, rfl⟩ := List.mem_map.1 hy; trivial)]
  simp only [List.any_map, List.any_eq_true, Function.comp_apply]
  constructor
  · rintro ⟨y, hy, h⟩
    have : bl y = bl x := by simpa [Lit.sameKey] using h
    rw [← eq_of_bl this]; exact hy
  · intro h
    exact ⟨x, h, by simp [Lit.sameKey]⟩
theorem row_ne {w : World} {base : Nat} {e : TypeId} {size : Nat} {v : Value} {n : Nat} {xs : List Value} (h : w.ownsRow base e size v n xs) {b : Nat} (hb : b < base) : some b ≠ v.ownBlock := fun e1 => by
  have := (h.lt b e1.symm).1
  omega
/-- What removeDuplicates returns. -/
def DupPost (g : Nat) (xs : List ByteArray) (w : World) (e : Ending) (w' : World) : Prop :=
  ∃ v l, e = .returned v ∧ StrF w' g v l ∧ (∀ y, y ∈ l ↔ y ∈ xs.map bl) ∧ l.length ≤ xs.length ∧ Ext w w'

set_option maxHeartbeats 4000000 in
set_option maxRecDepth 100000 in
theorem dup_any (g : Nat) (A : Option Addr) (n c : Nat) (xs : List ByteArray) (w : World) (hg : g < w.heap.size) (hr : RdS w A n xs) (hfar : ∀ ad, A = some ad → 0 < n → ad.block ≠ g) (hfew : n ≤ 2147483647) (hsm : ∀ x ∈ xs, x.size ≤ 2147483647) :
    Calls Tryz.prog 61 #[.slice A n c] w (DupPost g xs w) := by
  have hxl : xs.length = n := hr.1
  have HR := Lib.hid hr; clear hr
  have HF := Lib.hid hfar; clear hfar
  have HS := Lib.hid hsm; clear hsm
  have hmm := fun W => run_makeMap_hint (P := Tryz.prog) 101 9 102 .i64 (n : Int) Tryz.underlying101 W
  obtain ⟨i0, hi, hz0, hz1, hz2⟩ := info_parts info_string
  by_cases h1 : (n : Int) ≤ 1
  · clear hmm
    go_enter Tryz.func61, Tryz.ntmps61
    go_wp2
    go_ret
    exact ⟨.slice A n c, xs.map bl, rfl, ⟨A, n, c, xs, rfl, HR.out, rfl, HS.out, HF.out⟩, fun y => Iff.rfl, by simp, Ext.refl w⟩
  · have HXL := Lib.hid hxl; clear hxl
    go_enter Tryz.func61, Tryz.ntmps61
    go_wp2_with (at_make; refine wpList_make_own _ rfl _ (.tmp 16) 22 rfl (w.heap.size + 1) 9 i0 (.string ⟨#[]⟩) 1 Tryz.underlying22 hi hz0 hz1 .i64 .i64 n n rfl rfl rfl (by rw [hz2]; omega) (by unfold maxLen; omega) (by simp) ?_; intro w1 hown hgrow)
    have hx1 : Ext w w1 := ((Ext.refl w).alloc (.map #[] 0)).tr (ext_none hgrow)
    have hown0 : w1.ownsMap Tryz.prog 9 (unitElem (H := Unit)) w.heap.size 0 (setS []) := (World.ownsMap_made w Tryz.prog 9 _).kept hgrow (by simp)
    have hsz1 : w.heap.size + 1 ≤ w1.heap.size := by have := hgrow.size; simpa using this
    have HO := Lib.hid hown; have HM := Lib.hid hown0; have HX := Lib.hid hx1
    clear hown hown0 hx1 hgrow hmm
    go_wp2
    go_loopw [2, 20] (fun v i wr => ∃ (k : Nat) (ys : List ByteArray), i = .int .i64 k ∧ k ≤ n ∧ ys.length ≤ k ∧ (∀ y, y ∈ ys ↔ y ∈ xs.take k) ∧ wr.ownsMap Tryz.prog 9 (unitElem (H := Unit)) w.heap.size k (setS ys) ∧ wr.ownsRow (w.heap.size + 1) 9 1 v ys.length (ys.map Value.string) ∧ w.heap.size + 1 ≤ wr.heap.size ∧ Ext w wr) (fun _ i _ => n - (intOf i).toNat)
    case atStart => exact ⟨0, [], rfl, by omega, by simp, by simp, HM.out, (by simpa using HO.out), hsz1, HX.out⟩
    case round =>
      obtain ⟨k, ys, rfl, hk, hyk, hmem, hown, hrow, hws, hb⟩ := hrel
      have HME := Lib.hid hmem; clear hmem
      by_cases hlt : k < n
      · have hkx : k < xs.length := by rw [HXL.out]; exact hlt
        obtain ⟨ad, rfl, hck⟩ := (HR.out.ext hb).2.2 k hkx
        obtain ⟨x, hx⟩ : ∃ x, x = xs[k] := ⟨_, rfl⟩
        rw [← hx] at hck
        have hkey : keyOf Tryz.prog 9 (.string x) = some (.string (bl x)) := keyOf_string_mk Tryz.underlying9 (by have := HS.out x (by rw [hx]; exact List.getElem_mem hkx); unfold maxLen; omega)
        have HXK := Lib.hid hx; clear hx
        go_wp2_with (first
          | (at_lookup; refine wpList_lookup_own_unit _ rfl _ _ 101 rfl 9 102 lawS Tryz.underlying101 (zeroU _) w.heap.size k _ rfl hown _ _ rfl hkey ?_)
          | (at_mapUpdate; refine wpList_mapUpdate_own _ rfl _ _ _ 101 rfl 9 102 lawS Tryz.underlying101 (unitElem (H := Unit)) w.heap.size k _ rfl (hown.alloc _) (by unfold maxLen; omega) _ _ _ rfl rfl hkey _ [] unitElem_mk ?_; intro w1 hown1 hgrow1)
          | (at_builtin; refine wpList_append_own _ rfl _ _ 22 rfl (w.heap.size + 1) 9 i0 (.string ⟨#[]⟩) 1 16 Tryz.underlying22 hi hz0 hz1 hz2 rfl (by decide) _ _ _ rfl (((hrow.alloc _).kept hgrow1 (Or.inr (row_ne hrow (Nat.lt_succ_self _)).symm)).alloc _) ⟨w1.heap.size, 0, none⟩ 1 1 [.string x] rfl rfl (one_new _ _ _) (by intro u hu; simp at hu; subst hu; rfl) (by unfold maxLen; omega) (by omega) (by have := hgrow1.size; simp at this ⊢; omega) ?_; intro v' w2 hown' hgrow2 hnil2))
        · have hh : Maps.has (setS ys) (Lit.string (bl x)) = true := by assumption
          have hin := (has_setS ys x).1 hh
          go_roundw
          case rel =>
            refine ⟨k + 1, ys, by go_num, by omega, by omega, ?_, (hown.alloc _).mono (Nat.le_succ _), hrow.alloc _, by simp; omega, hb.alloc _⟩
            intro y
            rw [List.take_succ_eq_append_getElem hkx, List.mem_append, ← HME.out y, List.mem_singleton, ← HXK.out]
            constructor
            · exact .inl
            · rintro (h | rfl)
              · exact h
              · exact hin
          case measure => simp [intOf]; omega
        · have hh : Maps.has (setS ys) (Lit.string (bl x)) = false := by assumption
          have hr1 := (hrow.alloc (.cells #[] 102)).kept hgrow1 (Or.inr (row_ne hrow (Nat.lt_succ_self _)).symm)
          have s1 := hgrow1.size
          have s2 := hgrow2.size
          simp at s1 s2
          go_roundw
          case rel =>
            refine ⟨k + 1, ys ++ [x], by go_num, by omega, by simp; omega, ?_, ?_, ?_, by omega, ?_⟩
            · intro y
              rw [List.take_succ_eq_append_getElem hkx, List.mem_append, List.mem_append, ← HME.out y, List.mem_singleton, List.mem_singleton, ← HXK.out]
            · rw [setS_snoc]
              exact (hown1.alloc _).kept hgrow2 (row_ne hr1 (Nat.lt_succ_self _))
            · simpa using hown'
            · exact ((((hb.alloc _).grown hgrow1 (by simp; omega) (fun j hj => by cases hj; exact Nat.le_refl _)).alloc (by omega) _).grown hgrow2 (by simp; omega) (fun j hj => Nat.le_trans (Nat.le_succ _) (hr1.lt j hj).1))
          case measure => simp [intOf]; omega
      · have hkn : k = n := by omega
        obtain ⟨A2, c2, rfl, hrd⟩ := own_rdS hrow (by omega)
        have HRD := Lib.hid hrd; clear hrd
        have hfar2 : ∀ ad, A2 = some ad → 0 < ys.length → ad.block ≠ g := by
          intro ad had hp he
          obtain ⟨g2, cap2, hv2, hb2, _⟩ := hrow.form hp
          injection hv2 with hA _ _
          rw [had] at hA
          injection hA with hA
          subst hA
          have : g2 = g := he
          omega
        have HF2 := Lib.hid hfar2; clear hfar2
        go_wp2
        go_ret
        refine ⟨_, ys.map bl, rfl, ⟨A2, _, c2, ys, rfl, HRD.out, rfl, ?_, HF2.out⟩, ?_, by rw [List.length_map, HXL.out]; omega, hb⟩
        · intro y hy
          have := (HME.out y).1 hy
          exact HS.out y (List.mem_of_mem_take this)
        · intro y
          simp only [List.mem_map]
          constructor
          · rintro ⟨z, hz, rfl⟩
            exact ⟨z, List.mem_of_mem_take ((HME.out z).1 hz), rfl⟩
          · rintro ⟨z, hz, rfl⟩
            refine ⟨z, (HME.out z).2 ?_, rfl⟩
            rw [List.take_of_length_le (by rw [HXL.out]; omega)]; exact hz
end Go.Proofs.YtedniebpabfglaaGreatDoor
