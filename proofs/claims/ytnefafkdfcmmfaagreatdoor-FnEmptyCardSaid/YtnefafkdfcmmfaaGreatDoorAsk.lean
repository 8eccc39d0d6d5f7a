/- The walks of IsDNSAllowed, asked, DNS. -/
import Derived.Test.YtnefafkdfcmmfaaGreatDoorTold
import Derived.Defers
import Derived.Recover
namespace Go.Proofs.YtnefafkdfcmmfaaGreatDoor
open Go.RowKit

theorem NotPost.cases' {ok : Bool} {nt nm : ByteArray} {w w2 : World} {e : Ending} (h : NotPost ok nt nm w e w2) :
    (ok = true ∧ e = .returned .nilIface ∧ Ext w w2) ∨ (ok = false ∧ ∃ b, e = .returned (.iface 96 (.pointer (some ⟨b, 0, none⟩))) ∧ w.heap.size ≤ b ∧ Blk w2 b 100 #[.int .i64 1, .string nt, .string nm] ∧ Ext w w2) := by
  obtain ⟨h1, h2⟩ := h
  cases ok with
  | true => exact .inl ⟨rfl, h2, h1⟩
  | false =>
    obtain ⟨b, h3, h4, h5⟩ := h2
    exact .inr ⟨rfl, b, h4, h3, h5, h1⟩
theorem NotPost.no {ok : Bool} {nt nm : ByteArray} {w w2 : World} {b : Nat} {e : Ending} (hok : ok = false) (he : e = .returned (.iface 96 (.pointer (some ⟨b, 0, none⟩)))) (h1 : w.heap.size ≤ b) (h2 : Blk w2 b 100 #[.int .i64 1, .string nt, .string nm]) (h3 : Ext w w2) :
    NotPost ok nt nm w e w2 := by
  subst hok
  exact ⟨h3, b, h1, he, h2⟩
theorem NotPost.yes {ok : Bool} {nt nm : ByteArray} {w w2 : World} {e : Ending} (hok : ok = true) (he : e = .returned .nilIface) (h3 : Ext w w2) : NotPost ok nt nm w e w2 := by
  subst hok
  exact ⟨h3, he⟩
theorem EngFin.ext {w w' : World} {g : Nat} {a : AE} (h : EngFin w g a) (hx : Ext w w') : EngFin w' g a := by
  obtain ⟨e, h1, h2⟩ := h
  exact ⟨e, h1.ext hx, h2⟩
set_option maxHeartbeats 1000000 in
set_option maxRecDepth 100000 in
theorem isdns_any (g : Nat) (x : ByteArray) (a : AE) (w : World) (hE : EngFin w g a) (hne : 0 < a.dns.length + a.ndns.length) (hx : Pl.DomN (bl x)) (hsx : x.size ≤ 900) (hcon : ∀ c, c ∈ a.dns ∨ c ∈ a.ndns → Pl.ConN c ∧ c.length ≤ 1000) :
    Calls Tryz.prog 31 #[.pointer (some ⟨g, 0, none⟩), .string x] w (NotPost (dnsOk a (bl x)) ⟨#[100, 110, 115]⟩ x w) := by
  have HE := Lib.hid hE; clear hE
  have HC := Lib.hid hcon; clear hcon
  have HX := Lib.hid hx; clear hx
  go_enter Tryz.func31, Tryz.ntmps31
  go_wp2_with fail
  have hx0 : Ext w (((((w.alloc (.cells #[.string x] 9)).alloc (.cells #[] 84)).alloc (.cells #[] 9)).alloc (.cells #[] 53)).alloc (.cells #[] 9)) := (((((Ext.refl w).alloc _).alloc _).alloc _).alloc _).alloc _
  have hb0 : Blk (((((w.alloc (.cells #[.string x] 9)).alloc (.cells #[] 84)).alloc (.cells #[] 9)).alloc (.cells #[] 53)).alloc (.cells #[] 9)) w.heap.size 9 #[.string x] := ((((Blk.new w _ _).alloc _).alloc _).alloc _).alloc _
  have HX0 := Lib.hid hx0; clear hx0
  refine (vn_one g (some ⟨w.heap.size, 0, none⟩) _ _ _ _ _ _ _ _ _ x a _ (HE.out.ext HX0.out) hne HX.out hsx HC.out ⟨rfl, by omega, fun j hj => ⟨_, rfl, ?_⟩⟩).mono ?_
  · obtain rfl : j = 0 := by simp at hj; exact hj
    exact hb0.cell 0
  rintro e w2 hpost
  rcases hpost.cases' with ⟨hok, rfl, hxx⟩ | ⟨hok, b, rfl, hb, hbk, hxx⟩
  · have HOK := Lib.hid hok; have HXX := Lib.hid hxx; clear hok hxx hpost hb0
    go_wp2
    go_ret
    exact .yes HOK.out rfl (HX0.out.tr HXX.out)
  · have HOK := Lib.hid hok; have HXX := Lib.hid hxx; have HBK := Lib.hid hbk; have HB := Lib.hid hb; clear hok hxx hpost hb0 hbk hb
    go_wp2
    go_ret
    exact .no HOK.out rfl (Nat.le_trans HX0.out.size HB.out) HBK.out (HX0.out.tr HXX.out)
def ToldAs (ev : Value) (w : World) (ok : Bool) (rs kd : Int) : Prop := ∀ w', Ext w w' → Calls Tryz.prog 63 #[ev] w' (fun e w2 => e = .returned (.tuple #[.bool ok, .int .i64 rs, .int .i64 kd]) ∧ Ext w' w2)
theorem asked1_idle (p4 p5 p6 : Addr) (w : World) :
    CallsD Tryz.prog 62 #[.pointer (some p4), .pointer (some p5), .pointer (some p6)] .returning w fun e u' w' => e = .returned (.tuple #[]) ∧ u' = .returning ∧ w' = w := by
  refine callsD_of_wpS Tryz.func62 rfl fun c₀ cs hu => ?_
  apply wpS_seq
  apply wpS_region
  simp [wpOpsS, go_sem, recoverD, hu, Tryz.ntmps62, Exit.thenS]
  refine wpS_cond (t := false) (by simp [Act.eval, Array.replicate]) ?_
  simp only [Bool.false_eq_true, if_false]
  refine wpS_of_wp (wp_skip ?_)
  cases c₀
  simp_all [bodyPostS, results, Tryz.results62]
set_option maxHeartbeats 4000000 in
set_option maxRecDepth 100000 in
theorem asked_any (q : Pol) (a : AE) (F : FuncId) (cap : Array Value) (ok : Bool) (rs kd : Int) (w : World)
    (hM : ∀ w', Ext w w' → Calls Tryz.prog 27 #[q.val] w' (MadePost w' a))
    (hcf : ∀ (args : Array Value) (w : World), (callFunc F args).run Tryz.prog w = .ok (.enter F args) w)
    (hF : ∀ g a' w', Ext w w' → EngFin w' g a' → Like a a' → Calls Tryz.prog F (#[.pointer (some ⟨g, 0, none⟩)] ++ cap) w' (fun e w2 => ∃ ev, e = .returned ev ∧ ToldAs ev w2 ok rs kd ∧ Ext w' w2)) :
    Calls Tryz.prog 29 #[q.val, .func (.func F) #[] cap] w (fun e w' => e = .returned (.tuple #[.bool ok, .int .i64 rs, .int .i64 kd]) ∧ Ext w w') := by
  have HM := Lib.hid hM; clear hM
  have HF := Lib.hid hF; clear hF
  have hmf : ∀ (fn : Fn) (first cap : Array Value) (w : World), (Instr.makeFunc fn first cap).run Tryz.prog w = .ok (.func fn first cap) w := fun _ _ _ _ => rfl
  go_enter_defers Tryz.func29, Tryz.ntmps29
  go_wp2_with fail
  have HX0 : Hid (Ext w ((((w.alloc (.cells q.cells 24)).alloc (.cells #[.bool false] 4)).alloc (.cells #[.int .i64 0] 3)).alloc (.cells #[.int .i64 0] 3))) := ((((Ext.refl w).alloc _).alloc _).alloc _).alloc _
  have HB4 : Hid (Blk ((((w.alloc (.cells q.cells 24)).alloc (.cells #[.bool false] 4)).alloc (.cells #[.int .i64 0] 3)).alloc (.cells #[.int .i64 0] 3)) (w.heap.size + 1) 4 #[.bool false]) := by
    have := Blk.new (w.alloc (.cells q.cells 24)) 4 #[.bool false]
    rw [World.size_alloc] at this
    exact (this.alloc _).alloc _
  have HB5 : Hid (Blk ((((w.alloc (.cells q.cells 24)).alloc (.cells #[.bool false] 4)).alloc (.cells #[.int .i64 0] 3)).alloc (.cells #[.int .i64 0] 3)) (w.heap.size + 1 + 1) 3 #[.int .i64 0]) := by
    have := Blk.new ((w.alloc (.cells q.cells 24)).alloc (.cells #[.bool false] 4)) 3 #[.int .i64 0]
    rw [World.size_alloc, World.size_alloc] at this
    exact this.alloc _
  have HB6 : Hid (Blk ((((w.alloc (.cells q.cells 24)).alloc (.cells #[.bool false] 4)).alloc (.cells #[.int .i64 0] 3)).alloc (.cells #[.int .i64 0] 3)) (w.heap.size + 1 + 1 + 1) 3 #[.int .i64 0]) := by
    have := Blk.new (((w.alloc (.cells q.cells 24)).alloc (.cells #[.bool false] 4)).alloc (.cells #[.int .i64 0] 3)) 3 #[.int .i64 0]
    rw [World.size_alloc, World.size_alloc, World.size_alloc] at this
    exact this
  generalize (((w.alloc (.cells q.cells 24)).alloc (.cells #[.bool false] 4)).alloc (.cells #[.int .i64 0] 3)).alloc (.cells #[.int .i64 0] 3) = W0 at HX0 HB4 HB5 HB6 ⊢
  refine (HM.out W0 HX0.out).mono ?_
  rintro e w1 ⟨g, a', rfl, hg, hfin, hlike, hx1⟩
  have HFN := Lib.hid hfin; have HLK := Lib.hid hlike; have HX1 := Lib.hid hx1; clear hfin hlike hx1 hg
  go_wp2_with fail
  refine (HF.out g a' w1 (HX0.out.tr HX1.out) HFN.out HLK.out).mono ?_
  rintro e w2 ⟨ev, rfl, htold, hx2⟩
  have HT := Lib.hid htold; have HX2 := Lib.hid hx2; clear htold hx2
  go_wp2_with fail
  refine (HT.out w2 (Ext.refl _)).mono ?_
  rintro e w3 ⟨rfl, hx3⟩
  have HX3 : Hid (Ext W0 w3) := (HX1.out.tr HX2.out).tr hx3
  clear hx3
  have c4 : w3.cell? ⟨w.heap.size + 1, 0, none⟩ = some (.bool false) := (HB4.out.ext HX3.out).cell 0
  have f4 : w3.frozen? ⟨w.heap.size + 1, 0, none⟩ = false := (HB4.out.ext HX3.out).frozen 0
  have c5 : w3.cell? ⟨w.heap.size + 1 + 1, 0, none⟩ = some (.int .i64 0) := (HB5.out.ext HX3.out).cell 0
  have f5 : w3.frozen? ⟨w.heap.size + 1 + 1, 0, none⟩ = false := (HB5.out.ext HX3.out).frozen 0
  have c6 : w3.cell? ⟨w.heap.size + 1 + 1 + 1, 0, none⟩ = some (.int .i64 0) := (HB6.out.ext HX3.out).cell 0
  have f6 : w3.frozen? ⟨w.heap.size + 1 + 1 + 1, 0, none⟩ = false := (HB6.out.ext HX3.out).frozen 0
  go_wp2
  have hend : Ext w (((w3.setCell ⟨w.heap.size + 1, 0, none⟩ (.bool ok)).setCell ⟨w.heap.size + 1 + 1, 0, none⟩ (.int .i64 rs)).setCell ⟨w.heap.size + 1 + 1 + 1, 0, none⟩ (.int .i64 kd)) :=
    Below.setCell (Below.setCell (Below.setCell (HX0.out.tr HX3.out) (by show w.heap.size ≤ w.heap.size + 1; omega) _) (by show w.heap.size ≤ w.heap.size + 1 + 1; omega) _) (by show w.heap.size ≤ w.heap.size + 1 + 1 + 1; omega) _
  have HEND := Lib.hid hend; clear hend
  refine leaves_cons (f := 62) (args := #[.pointer (some ⟨w.heap.size + 1, 0, none⟩), .pointer (some ⟨w.heap.size + 1 + 1, 0, none⟩), .pointer (some ⟨w.heap.size + 1 + 1 + 1, 0, none⟩)]) (by simp) (by simp [go_sem]) ?_
  refine (asked1_idle _ _ _ _).mono ?_
  rintro e u' w'' ⟨rfl, rfl, rfl⟩
  simp [Leaves, settle, results, Tryz.results29, go_sem, c4, c5, c6]
  exact HEND.out
end Go.Proofs.YtnefafkdfcmmfaaGreatDoor
