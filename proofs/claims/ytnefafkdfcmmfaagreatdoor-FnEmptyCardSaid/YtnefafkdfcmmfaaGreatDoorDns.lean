/- The walk of DNS. -/
import Derived.Test.YtnefafkdfcmmfaaGreatDoorAsk
namespace Go.Proofs.YtnefafkdfcmmfaaGreatDoor
open Go.RowKit

theorem any_same {l l2 : List (List UInt8)} (h : SameT l l2) (m : List UInt8 → Bool) : l2.any m = l.any m := by
  rw [Bool.eq_iff_iff, List.any_eq_true, List.any_eq_true]
  constructor
  · rintro ⟨y, hy, hm⟩; exact ⟨y, (h.1 y).1 hy, hm⟩
  · rintro ⟨y, hy, hm⟩; exact ⟨y, (h.1 y).2 hy, hm⟩
theorem empty_same {l l2 : List (List UInt8)} (h : SameT l l2) : l2.isEmpty = l.isEmpty := by
  rw [Bool.eq_iff_iff, List.isEmpty_iff, List.isEmpty_iff]
  constructor
  · rintro rfl
    cases l with
    | nil => rfl
    | cons a t => exact absurd ((h.1 a).2 (by simp)) (by simp)
  · rintro rfl; exact h.nil
theorem allows_same {p p2 q q2 : List (List UInt8)} (h : SameT p p2) (k : SameT q q2) (m : List UInt8 → Bool) : allows m p2 q2 = allows m p q := by
  unfold allows
  rw [any_same h, any_same k, empty_same h]
theorem dnsOk_like {a b : AE} (h : Like a b) (x : List UInt8) : dnsOk b x = dnsOk a x := by
  unfold dnsOk
  rw [h.lit]
  exact allows_same h.dns h.ndns _
theorem told_no (b : Nat) (nm : ByteArray) (w : World) (hB : Blk w b 100 #[.int .i64 1, .string ⟨#[100, 110, 115]⟩, .string nm]) : ToldAs (.iface 96 (.pointer (some ⟨b, 0, none⟩))) w false 1 2 := fun w' hx =>
  told_err b 1 (by decide) (fun j h => by obtain rfl : j = 0 := by omega
                                          rw [toList_bl, toList_bl]; rfl) nm w' (hB.ext hx)
theorem told_yes (w : World) : ToldAs .nilIface w true 0 0 := fun w' _ => (told_nil w').mono fun e w2 h => ⟨h.1, by rw [h.2]; exact Ext.refl _⟩
/-- The number of a reason, of a kind. -/
def numOf (ok : Bool) (n : Int) : Int := if ok then 0 else n
set_option maxHeartbeats 1000000 in
theorem dns1_any (g b : Nat) (x : ByteArray) (a : AE) (w : World) (hs : w.cell? ⟨b, 0, none⟩ = some (.string x)) (hE : EngFin w g a) (hne : 0 < a.dns.length + a.ndns.length) (hx : Pl.DomN (bl x)) (hsx : x.size ≤ 900) (hcon : ∀ c, c ∈ a.dns ∨ c ∈ a.ndns → Pl.ConN c ∧ c.length ≤ 1000) :
    Calls Tryz.prog 30 #[.pointer (some ⟨g, 0, none⟩), .pointer (some ⟨b, 0, none⟩)] w (NotPost (dnsOk a (bl x)) ⟨#[100, 110, 115]⟩ x w) := by
  have HI := Lib.hid (isdns_any g x a w hE hne hx hsx hcon)
  clear hE hne hx hcon
  go_enter Tryz.func30, Tryz.ntmps30
  go_wp2_with fail
  refine HI.out.mono ?_
  rintro e w2 hpost
  rcases hpost.cases' with ⟨hok, rfl, hxx⟩ | ⟨hok, b2, rfl, hb, hbk, hxx⟩
  · have HOK := Lib.hid hok; have HXX := Lib.hid hxx; clear hok hxx hpost
    go_wp2
    go_ret
    exact .yes HOK.out rfl HXX.out
  · have HOK := Lib.hid hok; have HXX := Lib.hid hxx; have HBK := Lib.hid hbk; have HB := Lib.hid hb; clear hok hxx hpost hbk hb
    go_wp2
    go_ret
    exact .no HOK.out rfl HB.out HBK.out HXX.out
theorem call_dns1 (args : Array Value) (w : World) : (callFunc 30 args).run Tryz.prog w = .ok (.enter 30 args) w := by
  unfold callFunc
  simp [go_sem, Tryz.func30, Tryz.f30]
set_option maxHeartbeats 4000000 in
set_option maxRecDepth 100000 in
theorem DNS_any (q : Pol) (a : AE) (x : ByteArray) (w : World)
    (hM : ∀ w', Ext w w' → Calls Tryz.prog 27 #[q.val] w' (MadePost w' a))
    (hne : a.dns ≠ []) (hx : Pl.DomN (bl x)) (hfx : fineT x) (hcon : ∀ c, c ∈ a.dns ∨ c ∈ a.ndns → Pl.ConN c ∧ c.length ≤ 1000) :
    Calls Tryz.prog 12 #[q.val, .string x] w (fun e w' => e = .returned (.tuple #[.bool (dnsOk a (bl x)), .int .i64 (numOf (dnsOk a (bl x)) 1), .int .i64 (numOf (dnsOk a (bl x)) 2)]) ∧ Ext w w') := by
  have HM := Lib.hid hM; clear hM
  have HC := Lib.hid hcon; clear hcon
  have HX := Lib.hid hx; clear hx
  have HFX := Lib.hid hfx; clear hfx
  have HNE := Lib.hid hne; clear hne
  have hmf : ∀ (fn : Fn) (first cap : Array Value) (w : World), (Instr.makeFunc fn first cap).run Tryz.prog w = .ok (.func fn first cap) w := fun _ _ _ _ => rfl
  go_enter Tryz.func12, Tryz.ntmps12
  go_wp2_with fail
  have HX0 : Hid (Ext w (((w.alloc (.cells q.cells 24)).alloc (.cells #[.string x] 9)).alloc (.cells #[.string x] 9))) := (((Ext.refl w).alloc _).alloc _).alloc _
  have HB0 : Hid (Blk (((w.alloc (.cells q.cells 24)).alloc (.cells #[.string x] 9)).alloc (.cells #[.string x] 9)) w.heap.size 24 q.cells) := ((Blk.new w _ _).alloc _).alloc _
  have HB1 : Hid (Blk (((w.alloc (.cells q.cells 24)).alloc (.cells #[.string x] 9)).alloc (.cells #[.string x] 9)) (w.heap.size + 1) 9 #[.string x]) := by
    have := Blk.new (w.alloc (.cells q.cells 24)) 9 #[.string x]
    rw [World.size_alloc] at this
    exact this.alloc _
  have HB2 : Hid (Blk (((w.alloc (.cells q.cells 24)).alloc (.cells #[.string x] 9)).alloc (.cells #[.string x] 9)) (w.heap.size + 1 + 1) 9 #[.string x]) := by
    have := Blk.new ((w.alloc (.cells q.cells 24)).alloc (.cells #[.string x] 9)) 9 #[.string x]
    rw [World.size_alloc, World.size_alloc] at this
    exact this
  generalize ((w.alloc (.cells q.cells 24)).alloc (.cells #[.string x] 9)).alloc (.cells #[.string x] 9) = W0 at HX0 HB0 HB1 HB2 ⊢
  refine (right_any (some ⟨w.heap.size + 1 + 1, 0, none⟩) 1 1 [x] W0 ⟨rfl, by omega, fun j hj => ⟨_, rfl, ?_⟩⟩ (by omega) (fun y hy => by simp at hy; subst hy; exact HFX.out)).mono ?_
  · obtain rfl : j = 0 := by simp at hj; exact hj
    exact HB2.out.cell 0
  rintro e w1 ⟨rfl, hb1⟩
  have HX1 := Lib.hid hb1; clear hb1
  have l0 : w1.cell? ⟨w.heap.size, 0, none⟩ = some q.dns.val := (HB0.out.ext HX1.out).cell 0
  have l1 : w1.cell? ⟨w.heap.size, 1, none⟩ = some q.ndns.val := (HB0.out.ext HX1.out).cell 1
  have l2 : w1.cell? ⟨w.heap.size, 2, none⟩ = some q.ip.val := (HB0.out.ext HX1.out).cell 2
  have l3 : w1.cell? ⟨w.heap.size, 3, none⟩ = some q.nip.val := (HB0.out.ext HX1.out).cell 3
  have l4 : w1.cell? ⟨w.heap.size, 4, none⟩ = some q.em.val := (HB0.out.ext HX1.out).cell 4
  have l5 : w1.cell? ⟨w.heap.size, 5, none⟩ = some q.nem.val := (HB0.out.ext HX1.out).cell 5
  have l6 : w1.cell? ⟨w.heap.size, 6, none⟩ = some q.uri.val := (HB0.out.ext HX1.out).cell 6
  have l7 : w1.cell? ⟨w.heap.size, 7, none⟩ = some q.nuri.val := (HB0.out.ext HX1.out).cell 7
  have l8 : w1.cell? ⟨w.heap.size, 8, none⟩ = some q.cn.val := (HB0.out.ext HX1.out).cell 8
  have l9 : w1.cell? ⟨w.heap.size, 9, none⟩ = some q.ncn.val := (HB0.out.ext HX1.out).cell 9
  have l10 : w1.cell? ⟨w.heap.size, 10, none⟩ = some q.pr.val := (HB0.out.ext HX1.out).cell 10
  have l11 : w1.cell? ⟨w.heap.size, 11, none⟩ = some q.npr.val := (HB0.out.ext HX1.out).cell 11
  have l12 : w1.cell? ⟨w.heap.size, 12, none⟩ = some (.bool q.lit) := (HB0.out.ext HX1.out).cell 12
  have l13 : w1.cell? ⟨w.heap.size, 13, none⟩ = some (.bool q.ver) := (HB0.out.ext HX1.out).cell 13
  have HA : Hid (∀ w', Ext w1 w' → Calls Tryz.prog 29 #[q.val, .func (.func 30) #[] #[.pointer (some ⟨w.heap.size + 1, 0, none⟩)]] w' (fun e w2 => e = .returned (.tuple #[.bool (dnsOk a (bl x)), .int .i64 (numOf (dnsOk a (bl x)) 1), .int .i64 (numOf (dnsOk a (bl x)) 2)]) ∧ Ext w' w2)) := by
    intro w' hw'
    refine asked_any q a _ _ _ _ _ w' (fun w2 h2 => HM.out w2 (HX0.out.tr (HX1.out.tr (hw'.tr h2)))) call_dns1 ?_
    intro g a' w2 h2 hfin hlike
    have hmem : ∀ c, c ∈ a'.dns ∨ c ∈ a'.ndns → Pl.ConN c ∧ c.length ≤ 1000 := fun c hc => HC.out c (by
      rcases hc with hc | hc
      · exact .inl ((hlike.dns.1 c).1 hc)
      · exact .inr ((hlike.ndns.1 c).1 hc))
    have hpos : 0 < a'.dns.length + a'.ndns.length := by
      have : 0 < a'.dns.length := by
        rcases Nat.eq_zero_or_pos a'.dns.length with h | h
        · exfalso
          apply HNE.out
          have e1 := List.eq_nil_of_length_eq_zero h
          have e2 := empty_same hlike.dns
          rw [e1] at e2
          exact List.isEmpty_iff.1 e2.symm
        · exact h
      omega
    refine (dns1_any g (w.heap.size + 1) x a' w2 ((HB1.out.ext (HX1.out.tr (hw'.tr h2))).cell 0) hfin hpos HX.out (by have := HFX.out.1; omega) hmem).mono ?_
    intro e w3 hp
    rw [dnsOk_like hlike] at hp
    rcases hp.cases' with ⟨hok, rfl, hxx⟩ | ⟨hok, b2, rfl, hb, hbk, hxx⟩
    · rw [hok]
      exact ⟨_, rfl, told_yes w3, hxx⟩
    · rw [hok]
      exact ⟨_, rfl, told_no b2 x w3 hbk, hxx⟩
  go_wp2_with fail
  refine (HA.out w1 (Ext.refl _)).mono ?_
  rintro e w4 ⟨rfl, hx4⟩
  have HX4 := Lib.hid hx4; clear hx4
  go_wp2
  go_ret3
  exact ⟨rfl, HX0.out.tr (HX1.out.tr HX4.out)⟩
end Go.Proofs.YtnefafkdfcmmfaaGreatDoor
