/- The card of 'laws.FnMade' is proved: whatever the policy, it returns true, and the argument reads as it did; the listed variables hold what the program's text lays. -/
import Derived.Test.YtedniebpabfglaaGreatDoorRowKit2
import Derived.Test.YtedniebpabfglaaGreatDoorMdLaw
import Derived.ChangeMaps5
import Derived.ChangeSame
import Derived.Deep.Fields23
import Derived.Lib.LaidPrint
import Derived.Lay
namespace Go.Proofs.YtedniebpabfglaaGreatDoor.fnMade
open Go.ChangeShapes Go.WideShapes Go.ChangeAt Go.RowKit Go.ChangeMaps Go.WideElems Go.Deep

set_option maxRecDepth 100000 in
theorem table {W : World} (h : laidMetH Tryz.prog Rows.fnMadeRow.laid W) : SpTab W :=
  Lib.tabIs_of_head (rest := _) gSpa gSpaType Tryz.underlying115 Tryz.underlying5 cellsU8 cellsSpa (laid_skip (laid_skip (laid_skip (laid_skip (laid_skip h)))))
theorem cells_hd : Tryz.prog.cellsOf 75 = 1 := by kernel_rfl
theorem cells_pd : Tryz.prog.cellsOf 73 = 1 := by kernel_rfl
theorem cells_ad : Tryz.prog.cellsOf 119 = 2 := by kernel_rfl
theorem cells_strs : Tryz.prog.cellsOf 22 = 1 := by kernel_rfl
theorem cells_bool : Tryz.prog.cellsOf 4 = 1 := by kernel_rfl
theorem cells_pol : Tryz.prog.cellsOf 24 = 14 := by kernel_rfl
theorem gz0 : Tryz.prog.globalNamed "net/netip.z0" = some 1 := by kernel_rfl
theorem gz4 : Tryz.prog.globalNamed "net/netip.z4" = some 2 := by kernel_rfl
theorem gpre : Tryz.prog.globalNamed "net.v4InV6Prefix" = some 3 := by kernel_rfl
theorem tz0 : (Tryz.prog.globals[1]?).map (·.type) = some 75 := by kernel_rfl
theorem tz4 : (Tryz.prog.globals[2]?).map (·.type) = some 75 := by kernel_rfl
theorem tpre : (Tryz.prog.globals[3]?).map (·.type) = some 53 := by kernel_rfl
theorem head_of_take {cs : Array Value} {v : Value} (h : (cs.toList.drop 0).take 1 = [v]) : cs[0]? = some v := by
  have := congrArg (·[0]?) h
  simpa [List.getElem?_take] using this
set_option maxRecDepth 100000 in
theorem iptab {W : World} (h : laidMetH Tryz.prog Rows.fnMadeRow.laid W) : ∃ zb zo pb po pc, IpTab zb zo pb po pc W := by
  have h' : laidMet Tryz.prog Rows.fnMadeRow.laid W := h
  obtain ⟨g0, t0, cs0, f0, p0, hg0, ht0, hv0, hd0⟩ := Lib.laidMet.reads h' (n := "net/netip.z0") (d := Rows.laid_net_netip_z0) (List.mem_of_getElem? (i := 9) rfl)
  obtain ⟨g4, t4, cs4, f4, p4, hg4, ht4, hv4, hd4⟩ := Lib.laidMet.reads h' (n := "net/netip.z4") (d := Rows.laid_net_netip_z4) (List.mem_of_getElem? (i := 6) rfl)
  have hp := Lib.laidMet.reads h' (n := "net.v4InV6Prefix") (d := Rows.laid_net_v4InV6Prefix) (List.mem_of_getElem? (i := 8) rfl)
  obtain rfl := Option.some.inj (gz0.symm.trans hg0)
  obtain rfl := Option.some.inj (tz0.symm.trans ht0)
  obtain rfl := Option.some.inj (gz4.symm.trans hg4)
  obtain rfl := Option.some.inj (tz4.symm.trans ht4)
  have hz0 : W.cell? ⟨1, 0, none⟩ = some (.pointer none) := by
    obtain ⟨y0, n, hx, _, hy⟩ := trod_struct1 Tryz.underlying75 hd0
    have e0 : y0.1 = .nil := by
      have := congrArg Prod.fst hx
      simp only [Rows.laid_net_netip_z0, DataW.agg.injEq, List.cons.injEq, and_true] at this
      exact this.symm
    rcases DataW.trod_pointer Tryz.underlying73 hy with ⟨hcs, _⟩ | ⟨a, cs', y, m, _, _, hx2, _⟩
    · rw [World.var?_cell gz0 hv0 0]
      rw [cells_pd] at hcs
      exact head_of_take hcs
    · rw [hx2] at e0; cases e0
  have hz4 : ∃ zb zo, W.cell? ⟨2, 0, none⟩ = some (.pointer (some ⟨zb, zo, none⟩)) ∧ W.cell? ⟨zb, zo, none⟩ = some (.bool false) ∧ W.cell? ⟨zb, zo + 1, none⟩ = some (.string ⟨#[]⟩) := by
    obtain ⟨y0, n, hx, _, hy⟩ := trod_struct1 Tryz.underlying75 hd4
    have e0 : y0.1 = .ptr (.agg [.lit (.bool false), .lit (.string [])]) := by
      have := congrArg Prod.fst hx
      simp only [Rows.laid_net_netip_z4, DataW.agg.injEq, List.cons.injEq, and_true] at this
      exact this.symm
    rcases open_ptr_fields2 Tryz.underlying73 Tryz.underlying119 (by kernel_rfl) cells_ad hy with ⟨_, hx2⟩ | ⟨b, o, m, v0, v1, y1, y2, hcs, _, hx2, c0, c1, t1, t2⟩
    · rw [hx2] at e0; cases e0
    · rw [hx2] at e0
      simp only [DataW.ptr.injEq, DataW.agg.injEq, List.cons.injEq, and_true] at e0
      obtain ⟨e1, e2⟩ := e0
      obtain ⟨bb, hb1, hb2⟩ := DataW.trod_bool Tryz.underlying4 t1
      obtain ⟨ss, hs1, hs2, _⟩ := DataW.trod_string Tryz.underlying9 t2
      rw [hb2] at e1
      rw [hs2] at e2
      simp only [DataW.lit.injEq, Lit.bool.injEq] at e1
      simp only [DataW.lit.injEq, Lit.string.injEq] at e2
      subst e1
      obtain rfl : v0 = .bool false := by simpa using hb1
      obtain rfl : v1 = .string ss := by simpa using hs1
      have es : ss = ⟨#[]⟩ := eq_of_bl (by rw [show bl ss = [] from e2])
      subst es
      refine ⟨b, o, ?_, c0, c1⟩
      rw [World.var?_cell gz4 hv4 0]
      rw [cells_pd] at hcs
      exact head_of_take hcs
  obtain ⟨zb, zo, a1, a2, a3⟩ := hz4
  obtain ⟨pb, po, pc, b1, b2⟩ := Lib.tabSlice_of_reads (k := .u8) (l := [0, 0, 0, 0, 0, 0, 0, 0, 0, 0, 255, 255]) gpre tpre Tryz.underlying53 Tryz.underlying5 cellsU8 (by decide) hp
  refine ⟨zb, zo, pb, po, pc, hz0, a1, a2, a3, b1, fun j hj => ?_⟩
  rw [b2 j hj]
  match j, hj with
  | 0, _ | 1, _ | 2, _ | 3, _ | 4, _ | 5, _ | 6, _ | 7, _ | 8, _ | 9, _ | 10, _ | 11, _ => rfl
set_option maxRecDepth 100000 in
/-- A slice of texts that lies in a field. -/
theorem fld_rds {H : Type} {enc : TypeId × Value → H} {W : World} {v : Value} {x : DataW H × List MemPlace} {fuel : Nat}
    (hf : DataW.trod enc Tryz.prog W 0 (fun _ => true) true fuel 22 [v] = some x) (hs : ∀ el sp, x.1 = .slice el sp → (el.length + sp.length) * Tryz.prog.bytesOf 9 ≤ reachBytes) : ∃ A n c xs, v = .slice A n c ∧ RdS W A n xs := by
  rcases open_strings Tryz.underlying22 Tryz.underlying9 cells_str hf with ⟨hcs, _⟩ | ⟨a, len, cap, ss, hcs, _, hl, hm, hz, hx, hcell, hws⟩
  · have h1 : v = .slice none 0 0 := by simpa using hcs
    subst h1
    exact ⟨none, 0, 0, [], rfl, rfl, by omega, fun j hj => by simp at hj⟩
  · have h1 : v = .slice (some a) len cap := by simpa using hcs
    subst h1
    have hz2 : ss.length = cap := by simpa using hz
    have hlen : (ss.take len).length = len := by rw [List.length_take]; omega
    have hbound : len ≤ 140737488355328 := by
      have h2 := hs _ _ (congrArg Prod.fst hx)
      rw [bytes_str] at h2
      have h3 := reach_lt h2 (by omega)
      simpa [strs, hlen, hz2, Nat.min_eq_left hl] using h3
    refine ⟨some a, len, cap, ss.take len, rfl, hlen, hbound, fun j hj => ⟨a, rfl, ?_⟩⟩
    have hj2 : j < len := by rw [hlen] at hj; exact hj
    rw [hcell j (by omega), List.getElem_take, List.getD_eq_getElem?_getD, List.getElem?_eq_getElem (by omega)]
    rfl
set_option maxRecDepth 100000 in
theorem fld_at {H : Type} {enc : TypeId × Value → H} {W : World} {xs : List (DataW H × List MemPlace)} {cs : Array Value} {n i : Nat} (hi : i < xs.length) (hc : i < cs.size)
    (h : DataW.trod enc Tryz.prog W 0 (fun _ => true) true n 22 ((cs.toList.drop i).take (Tryz.prog.cellsOf 22)) = xs[i]?)
    (hs : ∀ el sp, (xs.map (·.1))[i]? = some (.slice el sp) → (el.length + sp.length) * Tryz.prog.bytesOf 9 ≤ reachBytes) : ∃ A m c ys, cs[i]? = some (.slice A m c) ∧ RdS W A m ys := by
  have e1 : (cs.toList.drop i).take 1 = [cs[i]] := by
    rw [List.drop_eq_getElem_cons (by simpa using hc)]
    simp
  rw [cells_strs, e1, List.getElem?_eq_getElem hi] at h
  obtain ⟨A, m, c, ys, e, hr⟩ := fld_rds h (fun el sp e => hs el sp (by rw [List.getElem?_map, List.getElem?_eq_getElem hi, Option.map_some, e]))
  exact ⟨A, m, c, ys, by rw [Array.getElem?_eq_getElem hc, e], hr⟩
theorem bool_at {H : Type} {enc : TypeId × Value → H} {W : World} {xs : List (DataW H × List MemPlace)} {cs : Array Value} {n i : Nat} (hi : i < xs.length) (hc : i < cs.size)
    (h : DataW.trod enc Tryz.prog W 0 (fun _ => true) true n 4 ((cs.toList.drop i).take (Tryz.prog.cellsOf 4)) = xs[i]?) : ∃ b, cs[i]? = some (.bool b) := by
  have e1 : (cs.toList.drop i).take 1 = [cs[i]] := by
    rw [List.drop_eq_getElem_cons (by simpa using hc)]
    simp
  rw [cells_bool, e1, List.getElem?_eq_getElem hi] at h
  obtain ⟨b, hb, _⟩ := DataW.trod_bool Tryz.underlying4 h
  exact ⟨b, by rw [Array.getElem?_eq_getElem hc]; simpa using hb⟩
set_option maxRecDepth 100000 in
set_option maxHeartbeats 1000000 in
/-- A policy that came in. -/
theorem pol_of {H : Type} {enc : TypeId × Value → H} {W : World} {base : Nat} {v : Value} {d : DataW H} {ps : List MemPlace} (hv : Value.okWide Tryz.prog W .any base 24 v)
    (h : DataW.Trod enc Tryz.prog W 0 (fun _ => true) true 24 v d ps) (hs : ∀ n ∈ d.weights Tryz.prog 24, n ≤ reachBytes) : ∃ q : Pol, v = q.val ∧ q.rd W := by
  obtain ⟨cs, rfl, hsz⟩ := okWide_struct Tryz.underlying24 hv
  rw [cells_pol] at hsz
  obtain ⟨fuel, hf⟩ := h
  obtain ⟨xs, n, _, hx, _, hxl, hall⟩ := DataW.trod_struct Tryz.underlying24 hf
  have hxl : xs.length = 14 := hxl
  have hd : d = .agg (xs.map (·.1)) := congrArg Prod.fst hx
  have hw : ∀ (j : Nat) el sp, j < 12 → (xs.map (·.1))[j]? = some (.slice el sp) → (el.length + sp.length) * Tryz.prog.bytesOf 9 ≤ reachBytes := by
    intro j el sp hj he
    refine hs _ ?_
    rw [hd]
    simp only [DataW.weights, Tryz.underlying24]
    refine DataW.weights_mem_each (j := j) (t := 22) ?_ he _ (by simp [DataW.weights, Tryz.underlying22])
    match j, hj with
    | 0, _ | 1, _ | 2, _ | 3, _ | 4, _ | 5, _ | 6, _ | 7, _ | 8, _ | 9, _ | 10, _ | 11, _ => rfl
  obtain ⟨A0, m0, c0, y0, e0, r0⟩ := fld_at (cs := cs) (i := 0) (by omega) (by omega) (hall 0 _ rfl) (fun el sp he => hw 0 el sp (by decide) he)
  obtain ⟨A1, m1, c1, y1, e1, r1⟩ := fld_at (cs := cs) (i := 1) (by omega) (by omega) (hall 1 _ rfl) (fun el sp he => hw 1 el sp (by decide) he)
  obtain ⟨A2, m2, c2, y2, e2, r2⟩ := fld_at (cs := cs) (i := 2) (by omega) (by omega) (hall 2 _ rfl) (fun el sp he => hw 2 el sp (by decide) he)
  obtain ⟨A3, m3, c3, y3, e3, r3⟩ := fld_at (cs := cs) (i := 3) (by omega) (by omega) (hall 3 _ rfl) (fun el sp he => hw 3 el sp (by decide) he)
  obtain ⟨A4, m4, c4, y4, e4, r4⟩ := fld_at (cs := cs) (i := 4) (by omega) (by omega) (hall 4 _ rfl) (fun el sp he => hw 4 el sp (by decide) he)
  obtain ⟨A5, m5, c5, y5, e5, r5⟩ := fld_at (cs := cs) (i := 5) (by omega) (by omega) (hall 5 _ rfl) (fun el sp he => hw 5 el sp (by decide) he)
  obtain ⟨A6, m6, c6, y6, e6, r6⟩ := fld_at (cs := cs) (i := 6) (by omega) (by omega) (hall 6 _ rfl) (fun el sp he => hw 6 el sp (by decide) he)
  obtain ⟨A7, m7, c7, y7, e7, r7⟩ := fld_at (cs := cs) (i := 7) (by omega) (by omega) (hall 7 _ rfl) (fun el sp he => hw 7 el sp (by decide) he)
  obtain ⟨A8, m8, c8, y8, e8, r8⟩ := fld_at (cs := cs) (i := 8) (by omega) (by omega) (hall 8 _ rfl) (fun el sp he => hw 8 el sp (by decide) he)
  obtain ⟨A9, m9, c9, y9, e9, r9⟩ := fld_at (cs := cs) (i := 9) (by omega) (by omega) (hall 9 _ rfl) (fun el sp he => hw 9 el sp (by decide) he)
  obtain ⟨A10, m10, c10, y10, e10, r10⟩ := fld_at (cs := cs) (i := 10) (by omega) (by omega) (hall 10 _ rfl) (fun el sp he => hw 10 el sp (by decide) he)
  obtain ⟨A11, m11, c11, y11, e11, r11⟩ := fld_at (cs := cs) (i := 11) (by omega) (by omega) (hall 11 _ rfl) (fun el sp he => hw 11 el sp (by decide) he)
  obtain ⟨b12, e12⟩ := bool_at (cs := cs) (i := 12) (by omega) (by omega) (hall 12 _ rfl)
  obtain ⟨b13, e13⟩ := bool_at (cs := cs) (i := 13) (by omega) (by omega) (hall 13 _ rfl)
  refine ⟨⟨⟨A0, m0, c0, y0⟩, ⟨A1, m1, c1, y1⟩, ⟨A2, m2, c2, y2⟩, ⟨A3, m3, c3, y3⟩, ⟨A4, m4, c4, y4⟩, ⟨A5, m5, c5, y5⟩, ⟨A6, m6, c6, y6⟩, ⟨A7, m7, c7, y7⟩, ⟨A8, m8, c8, y8⟩, ⟨A9, m9, c9, y9⟩, ⟨A10, m10, c10, y10⟩, ⟨A11, m11, c11, y11⟩, b12, b13⟩, ?_, ⟨r0, r1, r2, r3, r4, r5, r6, r7, r8, r9, r10, r11⟩⟩
  show Value.agg cs = Value.agg _
  congr 1
  apply Array.ext_getElem?
  intro i
  match i with
  | 0 => exact e0
  | 1 => exact e1
  | 2 => exact e2
  | 3 => exact e3
  | 4 => exact e4
  | 5 => exact e5
  | 6 => exact e6
  | 7 => exact e7
  | 8 => exact e8
  | 9 => exact e9
  | 10 => exact e10
  | 11 => exact e11
  | 12 => exact e12
  | 13 => exact e13
  | i + 14 => rw [Array.getElem?_eq_none (by omega)]; rfl
theorem rec_pol : Tryz.prog.readableRec 24 = true := by kernel_rfl
theorem row_pol : 24 < Tryz.prog.types.size := of_decide_eq_true (by kernel_rfl)
set_option maxRecDepth 100000 in
theorem contract (H : Type) (enc : TypeId × Value → H) (W : World) (base : Nat) (args : Array Value) (ds gs : List (DataW H)) (before : List MemPlace)
    (hval : ∀ (j : Nat) t v, Tryz.f3.params[j]? = some t → args[j]? = some v → Value.okWide Tryz.prog W .any base t v)
    (hW : DataW.Whole enc Tryz.prog Tryz.f3.params.toList Rows.fnMadeSpec.vars false W args.toList ds gs before)
    (hsz : (DataW.weightsEach Tryz.prog (Tryz.f3.params.toList ++ (OpenSpec.ofChange Rows.fnMadeSpec).bare.plain.varTypes Tryz.prog) (ds ++ gs)).all (· ≤ reachBytes) = true) (hL : laidMetH Tryz.prog Rows.fnMadeRow.laid W) :
    Calls Tryz.prog 3 args W fun e W' => ∃ v, e = .returned v ∧ Rows.fnMadeSpec.post enc Tryz.prog Tryz.f3 false true false false W args v W' := by
  have hW' := hW
  have hlt := hW.lt
  obtain ⟨p, q, hA0, hV, rfl, hfz, hnd⟩ := hW
  have hA : DataW.TrodAll enc Tryz.prog W 0 (fun _ => true) true Tryz.f3.params.toList args.toList ds p := hA0
  rw [Tryz.params3] at hA hval hsz
  obtain ⟨v0, vs0, d0, ds0, p0, q0, hargs, rfl, rfl, h0, r0⟩ := trodAll_cons hA
  obtain ⟨rfl, rfl, rfl⟩ := trodAll_nil r0
  obtain rfl : args = #[v0] := by cases args; simp_all
  obtain ⟨rfl, rfl⟩ := trodVars_none hV
  obtain ⟨q, rfl, hq⟩ := pol_of (hval 0 24 v0 rfl rfl) h0 (fun n hn => by
    have := List.all_eq_true.1 hsz n (DataW.weights_mem_each (j := 0) (t := 24) (d := d0) rfl rfl n hn)
    simpa using this)
  obtain ⟨zb, zo, pb, po, pc, hi⟩ := iptab hL
  clear hA0
  refine (FnMade_any zb zo pb po pc q W hq (table hL) hi).mono fun e W' ⟨he, hg⟩ => ?_
  subst he
  exact ⟨_, rfl, post_of_below (pa := p0 ++ []) (pv := []) hW' (fun _ _ _ => trodAll_cons_mk (shut_bool Tryz.underlying4 _) trodAll_mk0)
    (fun sp hsp => trodAll_cons_mk (Trod_stays laidOut rec_pol row_pol h0 (fun x hx => hg.same (hlt x (by simp [hx]))) (fun x hx => hsp x (by simp [hx]))) trodAll_mk0) (fun _ _ => rfl) (by simp)
    hg (ok_one (by kernel_rfl) rfl (okWide_bool_mk Tryz.underlying4 _))⟩

noncomputable def laidWorld (os : Os) : World := World.laidAll Tryz.prog os Rows.fnMadeRow.laid
abbrev wArgs : Array Value := #[.agg #[.slice none 0 0, .slice none 0 0, .slice none 0 0, .slice none 0 0, .slice none 0 0, .slice none 0 0, .slice none 0 0, .slice none 0 0, .slice none 0 0, .slice none 0 0, .slice none 0 0, .slice none 0 0, .bool false, .bool false]]
theorem laid_met (os : Os) : laidMet Tryz.prog Rows.fnMadeRow.laid ((laidWorld os).forCall (fun _ _ => 0) ⟨#[], wArgs, []⟩).memory :=
  laidMet_laidAll _ (by kernel_rfl) (by kernel_rfl)
theorem reads (os : Os) {H : Type} (enc : TypeId × Value → H) : ∃ places, DataW.whole enc Tryz.prog ((laidWorld os).forCall (fun _ _ => 0) ⟨#[], wArgs, []⟩).memory Tryz.f3.params.toList Rows.fnMadeSpec.vars false wArgs.toList 8 = some ([.agg [.nil, .nil, .nil, .nil, .nil, .nil, .nil, .nil, .nil, .nil, .nil, .nil, .lit (.bool false), .lit (.bool false)]], [], places) :=
  ⟨[], by kernel_rfl⟩
theorem wit_shaped {H : Type} {enc : TypeId × Value → H} {C : Checked} {os : Os} {f : FuncId} {fn : Func} {s : OpenSpec} {conds : List PathCond} {apart : Bool} {laid : List (String × DataW Unit)} (modest : Bool) (w0 : World) (args : Array Value) (hos : w0.os = os)
    (hsh : (w0.forCall (fun _ _ => 0) ⟨#[], args, []⟩).Shaped C.prog)
    (hok : Input.okWideB C.prog (w0.forCall (fun _ _ => 0) ⟨#[], args, []⟩) f ⟨#[], args, []⟩ = true)
    (hrow : s.preRow enc C.prog fn conds apart laid (w0.forCall (fun _ _ => 0) ⟨#[], args, []⟩).memory args) :
    ∃ (w : World) (tape : Tape) (i : Input), w.os = os ∧ (w.forCall tape i).Shaped C.prog ∧ i.vars = [] ∧ Input.okWide C.prog (w.forCall tape i) .any w.heap.size f i ∧
      s.preRow enc C.prog fn conds apart laid (w.forCall tape i).memory i.args ∧ ({ modest := modest } : Assume).holds C.prog (lone (Frame.enter C.prog f i.args .normal) [] (w.forCall tape i)) :=
  ⟨w0, fun _ _ => 0, ⟨#[], args, []⟩, hos, hsh, (Input.okWide_of_okWideB (base := 0) hok).1, (Input.okWide_of_okWideB hok).2, hrow, by
    simp only [Assume.holds]
    exact ⟨by simp, by simp, fun _ => Modest.zero, by simp, by simp⟩⟩
set_option maxRecDepth 100000 in
theorem lifted (os : Os) (started : os.Started) (H : Type) (enc : TypeId × Value → H) (F : Stop.Interp) :
    ReturnsInHanded {} Tryz.checked os 3 .any ((OpenSpec.ofChange Rows.fnMadeSpec).preRow enc Tryz.prog Tryz.f3 Rows.fnMadeRow.domain false Rows.fnMadeRow.laid) (((OpenSpec.ofChange Rows.fnMadeSpec).at F).post enc Tryz.prog Tryz.f3 false true false false) := by
  obtain ⟨places, hx⟩ := reads os enc
  refine returnsInHanded_of_row (C := Tryz.checked) (s := OpenSpec.ofChange Rows.fnMadeSpec) own started (by kernel_rfl) Tryz.func3
    (wit_shaped (enc := enc) (C := Tryz.checked) false (laidWorld os) wArgs (World.laidAll_os _ _ _) (World.shaped_of_ZipB (by kernel_rfl) (by kernel_rfl)) (by kernel_rfl)
      (OpenSpec.preRow_of_cond 8 hx (by kernel_rfl) (fun k hk => by cases hk) (by kernel_rfl) (laid_met os))) ?_
  intro W base args ds gs before hval hW _ _ hsz hL _ _
  exact contract H enc W base args ds gs before hval hW hsz hL
theorem said : Rows.FnMadeSaid :=
  OpenClaim.holds_of_cond 3 Tryz.f3 rfl rfl rfl rfl rfl rfl rfl ⟨rfl, rfl, rfl, rfl, rfl⟩ rfl rfl rfl rfl rfl (by kernel_rfl) Tryz.func3 (by kernel_rfl)
    (of_decide_eq_true (by kernel_rfl)) (by unfold Func.isWrapper; first | (rw [if_pos (by decide +kernel)]; kernel_rfl) | (rw [if_neg (by decide +kernel)]; exact ⟨rfl, rfl⟩))
    (fun os started H enc _ F => by rw [OpenClaim.pre_eq_preRow]; exact lifted os started H enc F)
theorem plain (f : FuncId) (fn : Func) (hf : Tryz.pinned.checked.prog.funcNamed "loop.example/pub-g03072/laws.FnMade" = some f) (hfn : Tryz.pinned.checked.prog.funcs[f]? = some fn) :
    false = Tryz.pinned.checked.prog.looks [] ∧ ∀ (j : Nat) t, fn.params[j]? = some t → Tryz.pinned.checked.prog.wantsStandIn t = false := by
  obtain rfl : f = 3 := Option.some.inj ((show Tryz.prog.funcNamed "loop.example/pub-g03072/laws.FnMade" = some 3 by kernel_rfl).symm.trans hf) |>.symm
  obtain rfl : fn = Tryz.f3 := (Option.some.inj (Tryz.func3.symm.trans hfn)).symm
  refine ⟨by kernel_rfl, fun j t ht => ?_⟩
  rw [Tryz.params3] at ht
  have hm := Array.mem_of_getElem? ht
  obtain rfl : t = 24 := by simpa using hm
  exact (show Tryz.prog.wantsStandIn 24 = false by kernel_rfl)
theorem card : Rows.FnMadeCardSaid :=
  Claim7.holds_tied_plain_at .later [] _ _ _ _ said (fun _ h => by cases h) (by kernel_rfl) (fun _ h => by cases h) fnMade_row_tie rfl ⟨rfl, rfl⟩ (by kernel_rfl) rfl plain (by kernel_rfl)
end Go.Proofs.YtedniebpabfglaaGreatDoor.fnMade
