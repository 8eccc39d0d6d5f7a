/- The walks of impl.Made at a right policy and of the law FnMade. -/
import Derived.Test.YtedniebpabfglaaGreatDoorFull
import Derived.Test.YtedniebpabfglaaGreatDoorFits
import Derived.Defers
import Derived.Recover
namespace Go.Proofs.YtedniebpabfglaaGreatDoor
open Go.RowKit

theorem made1_idle (p : Addr) (w : World) :
    CallsD Tryz.prog 15 #[.pointer (some p)] .returning w fun e u' w' => e = .returned (.tuple #[]) ∧ u' = .returning ∧ w' = w := by
  refine callsD_of_wpS Tryz.func15 rfl fun c₀ cs hu => ?_
  apply wpS_seq
  apply wpS_region
  simp [wpOpsS, go_sem, recoverD, hu, Tryz.ntmps15, Exit.thenS]
  refine wpS_cond (t := false) (by simp [Act.eval, Array.replicate]) ?_
  simp only [Bool.false_eq_true, if_false]
  refine wpS_of_wp (wp_skip ?_)
  cases c₀
  simp_all [bodyPostS, results, Tryz.results15]
set_option maxHeartbeats 4000000 in
set_option maxRecDepth 100000 in
theorem Made_any (q : Pol) (a : AE) (w : World)
    (hM : ∀ w', Ext w w' → Calls Tryz.prog 16 #[q.val] w' (MadePost w' a)) :
    Calls Tryz.prog 6 #[q.val] w (fun e w' => e = .returned (.bool true) ∧ Ext w w') := by
  have HM := Lib.hid hM; clear hM
  have hmf : ∀ (fn : Fn) (first cap : Array Value) (w : World), (Instr.makeFunc fn first cap).run Tryz.prog w = .ok (.func fn first cap) w := fun _ _ _ _ => rfl
  go_enter_defers Tryz.func6, Tryz.ntmps6
  go_wp2_with fail
  have HX0 : Hid (Ext w ((w.alloc (.cells q.cells 24)).alloc (.cells #[.bool false] 4))) := ((Ext.refl w).alloc _).alloc _
  have HB4 : Hid (Blk ((w.alloc (.cells q.cells 24)).alloc (.cells #[.bool false] 4)) (w.heap.size + 1) 4 #[.bool false]) := by
    have := Blk.new (w.alloc (.cells q.cells 24)) 4 #[.bool false]
    rw [World.size_alloc] at this
    exact this
  generalize (w.alloc (.cells q.cells 24)).alloc (.cells #[.bool false] 4) = W0 at HX0 HB4 ⊢
  refine (HM.out W0 HX0.out).mono ?_
  rintro e w1 ⟨g, a', rfl, hg, hfin, hlike, hx1⟩
  have HX1 := Lib.hid hx1; clear hfin hlike hx1 hg
  have c4 : w1.cell? ⟨w.heap.size + 1, 0, none⟩ = some (.bool false) := (HB4.out.ext HX1.out).cell 0
  have f4 : w1.frozen? ⟨w.heap.size + 1, 0, none⟩ = false := (HB4.out.ext HX1.out).frozen 0
  go_wp2
  have hend : Ext w (w1.setCell ⟨w.heap.size + 1, 0, none⟩ (.bool true)) :=
    Below.setCell (HX0.out.tr HX1.out) (by show w.heap.size ≤ w.heap.size + 1; omega) _
  have HEND := Lib.hid hend; clear hend
  refine leaves_cons (f := 15) (args := #[.pointer (some ⟨w.heap.size + 1, 0, none⟩)]) (by simp) (by simp [go_sem]) ?_
  refine (made1_idle _ _).mono ?_
  rintro e u' w'' ⟨rfl, rfl, rfl⟩
  simp [Leaves, settle, results, Tryz.results6, go_sem, c4]
  exact HEND.out
set_option maxHeartbeats 4000000 in
set_option maxRecDepth 100000 in
theorem FnMade_any (zb zo pb po pc : Nat) (q : Pol) (w : World) (hq : q.rd w) (ht : SpTab w) (hi : IpTab zb zo pb po pc w) :
    Calls Tryz.prog 3 #[q.val] w (BoolPost true w) := by
  have HQ := Lib.hid hq; have HT := Lib.hid ht; have HI := Lib.hid hi
  clear hq ht hi
  have HX0 : Hid (Ext w (w.alloc (.cells q.cells 24))) := (Ext.refl w).alloc _
  have HB0 : Hid (Blk (w.alloc (.cells q.cells 24)) w.heap.size 24 q.cells) := Blk.new _ _ _
  go_enter Tryz.func3, Tryz.ntmps3
  go_wp2_with fail
  refine (zzFits1_any q _ (HQ.out.ext HX0.out)).mono ?_
  rintro e w1 ⟨b, rfl, hok, hb1⟩
  have HX1 := Lib.hid (HX0.out.tr hb1)
  have HB1 := Lib.hid (HB0.out.ext hb1)
  have HOK := Lib.hid hok
  clear hb1 hok HX0 HB0
  cases b with
  | false =>
    go_wp2
    go_ret
    exact ⟨rfl, HX1.out⟩
  | true =>
    have l0 : w1.cell? ⟨w.heap.size, 0, none⟩ = some q.dns.val := HB1.out.cell 0
    have l1 : w1.cell? ⟨w.heap.size, 1, none⟩ = some q.ndns.val := HB1.out.cell 1
    have l2 : w1.cell? ⟨w.heap.size, 2, none⟩ = some q.ip.val := HB1.out.cell 2
    have l3 : w1.cell? ⟨w.heap.size, 3, none⟩ = some q.nip.val := HB1.out.cell 3
    have l4 : w1.cell? ⟨w.heap.size, 4, none⟩ = some q.em.val := HB1.out.cell 4
    have l5 : w1.cell? ⟨w.heap.size, 5, none⟩ = some q.nem.val := HB1.out.cell 5
    have l6 : w1.cell? ⟨w.heap.size, 6, none⟩ = some q.uri.val := HB1.out.cell 6
    have l7 : w1.cell? ⟨w.heap.size, 7, none⟩ = some q.nuri.val := HB1.out.cell 7
    have l8 : w1.cell? ⟨w.heap.size, 8, none⟩ = some q.cn.val := HB1.out.cell 8
    have l9 : w1.cell? ⟨w.heap.size, 9, none⟩ = some q.ncn.val := HB1.out.cell 9
    have l10 : w1.cell? ⟨w.heap.size, 10, none⟩ = some q.pr.val := HB1.out.cell 10
    have l11 : w1.cell? ⟨w.heap.size, 11, none⟩ = some q.npr.val := HB1.out.cell 11
    have l12 : w1.cell? ⟨w.heap.size, 12, none⟩ = some (.bool q.lit) := HB1.out.cell 12
    have l13 : w1.cell? ⟨w.heap.size, 13, none⟩ = some (.bool q.ver) := HB1.out.cell 13
    go_wp2_with fail
    clear l0 l1 l2 l3 l4 l5 l6 l7 l8 l9 l10 l11 l12 l13
    refine (IsPolicy_any q _ (HOK.out (by first | trivial | rfl))).mono ?_
    rintro e w2 ⟨rfl, hb2⟩
    have HX2 := Lib.hid (HX1.out.tr hb2)
    have HOK2 := Lib.hid ((HOK.out (by first | trivial | rfl)).ext hb2)
    have HB2 := Lib.hid (HB1.out.ext hb2)
    clear hb2
    cases hr : q.right with
    | false =>
      go_wp2
      go_ret
      exact ⟨rfl, HX2.out⟩
    | true =>
      have HR := Lib.hid hr; clear hr
      have l0 : w2.cell? ⟨w.heap.size, 0, none⟩ = some q.dns.val := HB2.out.cell 0
      have l1 : w2.cell? ⟨w.heap.size, 1, none⟩ = some q.ndns.val := HB2.out.cell 1
      have l2 : w2.cell? ⟨w.heap.size, 2, none⟩ = some q.ip.val := HB2.out.cell 2
      have l3 : w2.cell? ⟨w.heap.size, 3, none⟩ = some q.nip.val := HB2.out.cell 3
      have l4 : w2.cell? ⟨w.heap.size, 4, none⟩ = some q.em.val := HB2.out.cell 4
      have l5 : w2.cell? ⟨w.heap.size, 5, none⟩ = some q.nem.val := HB2.out.cell 5
      have l6 : w2.cell? ⟨w.heap.size, 6, none⟩ = some q.uri.val := HB2.out.cell 6
      have l7 : w2.cell? ⟨w.heap.size, 7, none⟩ = some q.nuri.val := HB2.out.cell 7
      have l8 : w2.cell? ⟨w.heap.size, 8, none⟩ = some q.cn.val := HB2.out.cell 8
      have l9 : w2.cell? ⟨w.heap.size, 9, none⟩ = some q.ncn.val := HB2.out.cell 9
      have l10 : w2.cell? ⟨w.heap.size, 10, none⟩ = some q.pr.val := HB2.out.cell 10
      have l11 : w2.cell? ⟨w.heap.size, 11, none⟩ = some q.npr.val := HB2.out.cell 11
      have l12 : w2.cell? ⟨w.heap.size, 12, none⟩ = some (.bool q.lit) := HB2.out.cell 12
      have l13 : w2.cell? ⟨w.heap.size, 13, none⟩ = some (.bool q.ver) := HB2.out.cell 13
      go_wp2_with fail
      clear l0 l1 l2 l3 l4 l5 l6 l7 l8 l9 l10 l11 l12 l13
      refine (Made_any q (engAll q) _ (fun w' hx => made_full zb zo pb po pc q w' (HOK2.out.ext hx) HR.out (HT.out.ext (HX2.out.tr hx)) (HI.out.ext (HX2.out.tr hx)))).mono ?_
      rintro e w3 ⟨rfl, hb3⟩
      have HX3 := Lib.hid (HX2.out.tr hb3)
      clear hb3
      go_wp2
      go_ret
      exact ⟨rfl, HX3.out⟩
end Go.Proofs.YtedniebpabfglaaGreatDoor
