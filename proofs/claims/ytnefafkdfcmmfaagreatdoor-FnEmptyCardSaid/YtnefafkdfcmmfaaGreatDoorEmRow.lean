/- The card of 'laws.FnEmpty' is proved: whatever the lists of names, addresses, mails and URIs, it returns true, and the arguments read as they did; the listed variables hold what the program's text lays. -/
import Derived.Test.YtnefafkdfcmmfaaGreatDoorRowKit2
import Derived.Test.YtnefafkdfcmmfaaGreatDoorEmLaw
import Derived.ChangeMaps5
namespace Go.Proofs.YtnefafkdfcmmfaaGreatDoor.fnEmpty
open Go.ChangeShapes Go.WideShapes Go.ChangeAt Go.RowKit Go.ChangeMaps Go.WideElems

set_option maxRecDepth 100000 in
theorem table {W : World} (h : laidMetH Tryz.prog Rows.fnEmptyRow.laid W) : SpTab W :=
  Lib.tabIs_of_head (rest := []) gSpa gSpaType Tryz.underlying165 Tryz.underlying5 cellsU8 cellsSpa (laid_skip (laid_skip h))

set_option maxRecDepth 100000 in
theorem contract (H : Type) (enc : TypeId × Value → H) (W : World) (base : Nat) (args : Array Value) (ds gs : List (DataW H)) (before : List MemPlace)
    (hval : ∀ (j : Nat) t v, Tryz.f6.params[j]? = some t → args[j]? = some v → Value.okWide Tryz.prog W .any base t v)
    (hW : DataW.Whole enc Tryz.prog Tryz.f6.params.toList Rows.fnEmptySpec.vars false W args.toList ds gs before)
    (hsz : (DataW.weightsEach Tryz.prog (Tryz.f6.params.toList ++ (OpenSpec.ofChange Rows.fnEmptySpec).bare.plain.varTypes Tryz.prog) (ds ++ gs)).all (· ≤ reachBytes) = true) (hL : laidMetH Tryz.prog Rows.fnEmptyRow.laid W) :
    Calls Tryz.prog 6 args W fun e W' => ∃ v, e = .returned v ∧ Rows.fnEmptySpec.post enc Tryz.prog Tryz.f6 false true false false W args v W' := by
  have hW' := hW
  have hlt := hW.lt
  obtain ⟨p, q, hA0, hV, rfl, hfz, hnd⟩ := hW
  have hA : DataW.TrodAll enc Tryz.prog W 0 (fun _ => true) true Tryz.f6.params.toList args.toList ds p := hA0
  rw [Tryz.params6] at hA hval hsz
  obtain ⟨v0, vs0, d0, ds0, p0, q0, hargs, rfl, rfl, h0, r0⟩ := trodAll_cons hA
  obtain ⟨v1, vs1, d1, ds1, p1, q1, rfl, rfl, rfl, h1, r1⟩ := trodAll_cons r0
  obtain ⟨v2, vs2, d2, ds2, p2, q2, rfl, rfl, rfl, h2, r2⟩ := trodAll_cons r1
  obtain ⟨v3, vs3, d3, ds3, p3, q3, rfl, rfl, rfl, h3, r3⟩ := trodAll_cons r2
  obtain ⟨rfl, rfl, rfl⟩ := trodAll_nil r3
  obtain rfl : args = #[v0, v1, v2, v3] := by cases args; simp_all
  obtain ⟨rfl, rfl⟩ := trodVars_none hV
  obtain ⟨A0, n0, c0, xs0, rfl, hr0⟩ := rds_of (hval 0 22 v0 rfl rfl) h0 (fun el sp e => sized_slice (j := 0) hsz rfl (by rw [e]; rfl) Tryz.underlying22)
  obtain ⟨A1, n1, c1, bs1, rfl, hr1⟩ := rdb_of (hval 1 38 v1 rfl rfl) h1 (fun el sp e => sized_slice (j := 1) hsz rfl (by rw [e]; rfl) Tryz.underlying38)
  obtain ⟨A2, n2, c2, xs2, rfl, hr2⟩ := rds_of (hval 2 22 v2 rfl rfl) h2 (fun el sp e => sized_slice (j := 2) hsz rfl (by rw [e]; rfl) Tryz.underlying22)
  obtain ⟨A3, n3, c3, xs3, rfl, hr3⟩ := rds_of (hval 3 22 v3 rfl rfl) h3 (fun el sp e => sized_slice (j := 3) hsz rfl (by rw [e]; rfl) Tryz.underlying22)
  clear hA0
  refine (FnEmpty_any A0 A1 A2 A3 n0 c0 n1 c1 n2 c2 n3 c3 xs0 xs2 xs3 bs1 W hr0 hr1 hr2 hr3 (table hL)).mono fun e W' ⟨he, hg⟩ => ?_
  subst he
  exact ⟨_, rfl, post_of_below (pa := p0 ++ (p1 ++ (p2 ++ (p3 ++ [])))) (pv := []) hW' (fun _ _ _ => trodAll_cons_mk (shut_bool Tryz.underlying4 _) trodAll_mk0)
    (fun sp hsp => trodAll_cons_mk (Trod_stays laidOut rec_strs row_strs h0 (fun x hx => hg.same (hlt x (by simp [hx]))) (fun x hx => hsp x (by simp [hx])))
      (trodAll_cons_mk (Trod_stays laidOut rec_byts row_byts h1 (fun x hx => hg.same (hlt x (by simp [hx]))) (fun x hx => hsp x (by simp [hx])))
        (trodAll_cons_mk (Trod_stays laidOut rec_strs row_strs h2 (fun x hx => hg.same (hlt x (by simp [hx]))) (fun x hx => hsp x (by simp [hx])))
          (trodAll_cons_mk (Trod_stays laidOut rec_strs row_strs h3 (fun x hx => hg.same (hlt x (by simp [hx]))) (fun x hx => hsp x (by simp [hx]))) trodAll_mk0)))) (fun _ _ => rfl) (by simp)
    hg (ok_one (by kernel_rfl) rfl (okWide_bool_mk Tryz.underlying4 _))⟩

noncomputable def laidWorld (os : Os) : World :=
  layAt (layAt (layAt (World.holding Tryz.prog os ⟨#[], #[], []⟩) 13 Rows.laid_math_bits_deBruijn32tab) 14 Rows.laid_math_bits_deBruijn64tab) 0 Rows.laid_strings_asciiSpace
abbrev wArgs : Array Value := #[.slice none 0 0, .slice none 0 0, .slice none 0 0, .slice none 0 0]
theorem laid_met (os : Os) : laidMet Tryz.prog Rows.fnEmptyRow.laid ((laidWorld os).forCall (fun _ _ => 0) ⟨#[], wArgs, []⟩).memory :=
  laidMet_of_run' 8 (by kernel_rfl) (by kernel_rfl)
theorem reads (os : Os) {H : Type} (enc : TypeId × Value → H) : ∃ places, DataW.whole enc Tryz.prog ((laidWorld os).forCall (fun _ _ => 0) ⟨#[], wArgs, []⟩).memory Tryz.f6.params.toList Rows.fnEmptySpec.vars false wArgs.toList 8 = some ([.nil, .nil, .nil, .nil], [], places) :=
  ⟨[], by kernel_rfl⟩
set_option maxRecDepth 100000 in
theorem lifted (os : Os) (started : os.Started) (H : Type) (enc : TypeId × Value → H) (F : Stop.Interp) :
    ReturnsInHanded {} Tryz.checked os 6 .any ((OpenSpec.ofChange Rows.fnEmptySpec).preRow enc Tryz.prog Tryz.f6 Rows.fnEmptyRow.domain false Rows.fnEmptyRow.laid) (((OpenSpec.ofChange Rows.fnEmptySpec).at F).post enc Tryz.prog Tryz.f6 false true false false) := by
  obtain ⟨places, hx⟩ := reads os enc
  refine returnsInHanded_of_row (C := Tryz.checked) (s := OpenSpec.ofChange Rows.fnEmptySpec) own started (by kernel_rfl) Tryz.func6
    (witness_row_at (enc := enc) (C := Tryz.checked) false (laidWorld os) wArgs rfl (by kernel_rfl) (by kernel_rfl) (by kernel_rfl)
      (OpenSpec.preRow_of_cond 8 hx (by kernel_rfl) (fun k hk => by cases hk) (by kernel_rfl) (laid_met os))) ?_
  intro W base args ds gs before hval hW _ _ hsz hL _ _
  exact contract H enc W base args ds gs before hval hW hsz hL
theorem said : Rows.FnEmptySaid :=
  OpenClaim.holds_of_cond 6 Tryz.f6 rfl rfl rfl rfl rfl rfl rfl ⟨rfl, rfl, rfl, rfl, rfl⟩ rfl rfl rfl rfl rfl (by kernel_rfl) Tryz.func6 (by kernel_rfl)
    (of_decide_eq_true (by kernel_rfl)) (by unfold Func.isWrapper; first | (rw [if_pos (by decide +kernel)]; kernel_rfl) | (rw [if_neg (by decide +kernel)]; exact ⟨rfl, rfl⟩))
    (fun os started H enc _ F => by rw [OpenClaim.pre_eq_preRow]; exact lifted os started H enc F)
theorem plain (f : FuncId) (fn : Func) (hf : Tryz.pinned.checked.prog.funcNamed "loop.example/pub-g03072/laws.FnEmpty" = some f) (hfn : Tryz.pinned.checked.prog.funcs[f]? = some fn) :
    true = Tryz.pinned.checked.prog.looks [] ∧ ∀ (j : Nat) t, fn.params[j]? = some t → Tryz.pinned.checked.prog.wantsStandIn t = false := by
  obtain rfl : f = 6 := Option.some.inj ((show Tryz.prog.funcNamed "loop.example/pub-g03072/laws.FnEmpty" = some 6 by kernel_rfl).symm.trans hf) |>.symm
  obtain rfl : fn = Tryz.f6 := (Option.some.inj (Tryz.func6.symm.trans hfn)).symm
  refine ⟨by kernel_rfl, fun j t ht => ?_⟩
  rw [Tryz.params6] at ht
  have hm := Array.mem_of_getElem? ht
  have h2 : t = 22 ∨ t = 38 := by simp at hm; rcases hm with h | h | h <;> simp [h]
  rcases h2 with rfl | rfl
  · exact (show Tryz.prog.wantsStandIn 22 = false by kernel_rfl)
  · exact (show Tryz.prog.wantsStandIn 38 = false by kernel_rfl)
theorem card : Rows.FnEmptyCardSaid :=
  Claim7.holds_tied_plain_at .later [] _ _ _ _ said (fun _ h => by cases h) (by kernel_rfl) (fun _ h => by cases h) fnEmpty_row_tie rfl ⟨rfl, rfl⟩ (by kernel_rfl) rfl plain (by kernel_rfl)
end Go.Proofs.YtnefafkdfcmmfaaGreatDoor.fnEmpty
