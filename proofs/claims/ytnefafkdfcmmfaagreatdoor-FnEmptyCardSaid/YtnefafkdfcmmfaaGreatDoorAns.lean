/- The walk of answers. -/
import Derived.Test.YtnefafkdfcmmfaaGreatDoorLaw
namespace Go.Proofs.YtnefafkdfcmmfaaGreatDoor
open Go.RowKit

abbrev nilSl : Sl := ⟨none, 0, 0, []⟩
theorem nilSl_ok (w : World) : nilSl.ok w := ⟨⟨rfl, by show (0 : Nat) ≤ _; omega, fun j hj => by simp at hj⟩, by simp⟩
/-- A policy of DNS names alone. -/
abbrev dnsPol (s : Sl) (lit : Bool) : Pol := ⟨s, nilSl, nilSl, nilSl, nilSl, nilSl, nilSl, nilSl, nilSl, nilSl, nilSl, nilSl, lit, false⟩
theorem dnsPol_ok (s : Sl) (lit : Bool) (w : World) (h : s.ok w) : (dnsPol s lit).ok w := ⟨h, nilSl_ok w, nilSl_ok w, nilSl_ok w, nilSl_ok w, nilSl_ok w, nilSl_ok w, nilSl_ok w, nilSl_ok w, nilSl_ok w, nilSl_ok w, nilSl_ok w⟩
theorem dnsPol_std (s : Sl) (lit : Bool) (h : ∀ x ∈ s.xs, Pl.isDomain (bl x) = true) (hn : s.n ≤ 20) : Std (dnsPol s lit) :=
  ⟨h, by simp, by simp, by simp, hn, by simp, by simp, by simp, ⟨rfl, rfl⟩, ⟨rfl, rfl⟩, ⟨rfl, rfl⟩, ⟨rfl, rfl⟩, ⟨rfl, rfl⟩, ⟨rfl, rfl⟩, ⟨rfl, rfl⟩, ⟨rfl, rfl⟩⟩
/-- The slice of one text. -/
abbrev oneSl (b : Nat) (x : ByteArray) : Sl := ⟨some ⟨b, 0, none⟩, 1, 1, [x]⟩
theorem oneSl_ok {w : World} {b : Nat} {x : ByteArray} {t : TypeId} (h : Blk w b t #[.string x]) (hx : x.size ≤ 2147483647) : (oneSl b x).ok w :=
  ⟨⟨rfl, by show (1 : Nat) ≤ _; omega, fun j hj => ⟨_, rfl, (by
    have hj0 : j = 0 := by
      have h1 : j < 1 := hj
      omega
    subst hj0
    exact h.cell 0)⟩⟩, by intro y hy; simp at hy; subst hy; exact hx⟩
theorem DNS_one (b : Nat) (c x : ByteArray) (lit : Bool) (t : TypeId) (w : World) (hB : Blk w b t #[.string c]) (ht : SpTab w) (hc : Pl.isDomain (bl c) = true) (hx : Pl.DomN (bl x)) :
    Calls Tryz.prog 12 #[(dnsPol (oneSl b c) lit).val, .string x] w (fun e w' => e = .returned (.tuple #[.bool (Pl.matchD lit (Pl.small (bl x)) (Pl.normD (bl c))), .int .i64 (numOf (Pl.matchD lit (Pl.small (bl x)) (Pl.normD (bl c))) 1), .int .i64 (numOf (Pl.matchD lit (Pl.small (bl x)) (Pl.normD (bl c))) 2)]) ∧ Ext w w') := by
  have hs : c.size ≤ 2147483647 := by have := (Pl.domN_fine (Pl.isDomain_DomN hc)).1; rw [bl_length] at this; omega
  have h := DNS_std (dnsPol (oneSl b c) lit) x w (dnsPol_ok _ _ _ (oneSl_ok hB hs)) (dnsPol_std _ _ (by intro y hy; simp at hy; subst hy; exact hc) (by show (1 : Nat) ≤ 20; omega)) ht (by simp) hx
  have e : dnsOk (engOf (dnsPol (oneSl b c) lit)) (bl x) = Pl.matchD lit (Pl.small (bl x)) (Pl.normD (bl c)) := by simp [dnsOk, engOf, allows]
  rw [e] at h
  exact h
set_option maxHeartbeats 4000000 in
set_option maxRecDepth 100000 in
theorem answers_any (w : World) (ht : SpTab w) : Calls Tryz.prog 15 #[] w (BoolPost true w) := by
  have HT := Lib.hid ht; clear ht
  go_enter Tryz.func15, Tryz.ntmps15
  go_wp2_with fail
  have HX0 : Hid (Ext w ((w.alloc (.cells #[.string ⟨#[97, 46, 98]⟩] 9)).alloc (.cells (dnsPol (oneSl w.heap.size ⟨#[97, 46, 98]⟩) false).cells 24))) := ((Ext.refl w).alloc _).alloc _
  have HB0 : Hid (Blk ((w.alloc (.cells #[.string ⟨#[97, 46, 98]⟩] 9)).alloc (.cells (dnsPol (oneSl w.heap.size ⟨#[97, 46, 98]⟩) false).cells 24)) w.heap.size 9 #[.string ⟨#[97, 46, 98]⟩]) := (Blk.new w _ _).alloc _
  have HB1 : Hid (Blk ((w.alloc (.cells #[.string ⟨#[97, 46, 98]⟩] 9)).alloc (.cells (dnsPol (oneSl w.heap.size ⟨#[97, 46, 98]⟩) false).cells 24)) (w.heap.size + 1) 24 (dnsPol (oneSl w.heap.size ⟨#[97, 46, 98]⟩) false).cells) := by
    have := Blk.new (w.alloc (.cells #[.string ⟨#[97, 46, 98]⟩] 9)) 24 (dnsPol (oneSl w.heap.size ⟨#[97, 46, 98]⟩) false).cells
    rw [World.size_alloc] at this
    exact this
  obtain ⟨W0, hW0⟩ : ∃ W0, W0 = (w.alloc (.cells #[.string ⟨#[97, 46, 98]⟩] 9)).alloc (.cells (dnsPol (oneSl w.heap.size ⟨#[97, 46, 98]⟩) false).cells 24) := ⟨_, rfl⟩
  rw [← hW0] at HX0 HB0 HB1
  have hW1 : (w.alloc (.cells #[.string ⟨#[97, 46, 98]⟩] 9)).alloc (.cells (dnsPol (oneSl w.heap.size ⟨#[97, 46, 98]⟩) false).cells 24) = W0 := hW0.symm
  clear hW0
  have hd1 : Pl.matchD false (Pl.small (bl ⟨#[97, 46, 98]⟩)) (Pl.normD (bl ⟨#[97, 46, 98]⟩)) = true := by decide
  have hd2 : Pl.matchD false (Pl.small (bl ⟨#[99, 46, 98]⟩)) (Pl.normD (bl ⟨#[97, 46, 98]⟩)) = false := by decide
  have hdm : Pl.isDomain (bl ⟨#[97, 46, 98]⟩) = true := by decide
  have HD1 : Hid (∀ w', Ext W0 w' → Calls Tryz.prog 12 #[(dnsPol (oneSl w.heap.size ⟨#[97, 46, 98]⟩) false).val, .string ⟨#[97, 46, 98]⟩] w' (fun e w2 => e = .returned (.tuple #[.bool true, .int .i64 0, .int .i64 0]) ∧ Ext w' w2)) := fun w' hw' => by
    have h := DNS_one w.heap.size ⟨#[97, 46, 98]⟩ ⟨#[97, 46, 98]⟩ false _ w' (HB0.out.ext hw') (HT.out.ext (HX0.out.tr hw')) hdm (.inl (by decide))
    rw [hd1] at h
    exact h
  have HD2 : Hid (∀ w', Ext W0 w' → Calls Tryz.prog 12 #[(dnsPol (oneSl w.heap.size ⟨#[97, 46, 98]⟩) false).val, .string ⟨#[99, 46, 98]⟩] w' (fun e w2 => e = .returned (.tuple #[.bool false, .int .i64 1, .int .i64 2]) ∧ Ext w' w2)) := fun w' hw' => by
    have h := DNS_one w.heap.size ⟨#[97, 46, 98]⟩ ⟨#[99, 46, 98]⟩ false _ w' (HB0.out.ext hw') (HT.out.ext (HX0.out.tr hw')) hdm (.inl (by decide))
    rw [hd2] at h
    exact h
  clear hd1 hd2 hdm
  refine (show Calls _ _ _ _ _ from (by rw [hW1]; exact HD1.out W0 (Ext.refl _) : Calls Tryz.prog 12 #[(dnsPol (oneSl w.heap.size ⟨#[97, 46, 98]⟩) false).val, .string ⟨#[97, 46, 98]⟩] ((w.alloc (.cells #[.string ⟨#[97, 46, 98]⟩] 9)).alloc (.cells (dnsPol (oneSl w.heap.size ⟨#[97, 46, 98]⟩) false).cells 24)) (fun e w2 => e = .returned (.tuple #[.bool true, .int .i64 0, .int .i64 0]) ∧ Ext W0 w2))).mono ?_
  clear hW1
  rintro e w1 ⟨rfl, hx1⟩
  have HX1 := Lib.hid hx1; clear hx1
  have l0 : w1.cell? ⟨w.heap.size + 1, 0, none⟩ = some (.slice (some ⟨w.heap.size, 0, none⟩) 1 1) := (HB1.out.ext HX1.out).cell 0
  have l1 : w1.cell? ⟨w.heap.size + 1, 1, none⟩ = some (.slice none 0 0) := (HB1.out.ext HX1.out).cell 1
  have l2 : w1.cell? ⟨w.heap.size + 1, 2, none⟩ = some (.slice none 0 0) := (HB1.out.ext HX1.out).cell 2
  have l3 : w1.cell? ⟨w.heap.size + 1, 3, none⟩ = some (.slice none 0 0) := (HB1.out.ext HX1.out).cell 3
  have l4 : w1.cell? ⟨w.heap.size + 1, 4, none⟩ = some (.slice none 0 0) := (HB1.out.ext HX1.out).cell 4
  have l5 : w1.cell? ⟨w.heap.size + 1, 5, none⟩ = some (.slice none 0 0) := (HB1.out.ext HX1.out).cell 5
  have l6 : w1.cell? ⟨w.heap.size + 1, 6, none⟩ = some (.slice none 0 0) := (HB1.out.ext HX1.out).cell 6
  have l7 : w1.cell? ⟨w.heap.size + 1, 7, none⟩ = some (.slice none 0 0) := (HB1.out.ext HX1.out).cell 7
  have l8 : w1.cell? ⟨w.heap.size + 1, 8, none⟩ = some (.slice none 0 0) := (HB1.out.ext HX1.out).cell 8
  have l9 : w1.cell? ⟨w.heap.size + 1, 9, none⟩ = some (.slice none 0 0) := (HB1.out.ext HX1.out).cell 9
  have l10 : w1.cell? ⟨w.heap.size + 1, 10, none⟩ = some (.slice none 0 0) := (HB1.out.ext HX1.out).cell 10
  have l11 : w1.cell? ⟨w.heap.size + 1, 11, none⟩ = some (.slice none 0 0) := (HB1.out.ext HX1.out).cell 11
  have l12 : w1.cell? ⟨w.heap.size + 1, 12, none⟩ = some (.bool false) := (HB1.out.ext HX1.out).cell 12
  have l13 : w1.cell? ⟨w.heap.size + 1, 13, none⟩ = some (.bool false) := (HB1.out.ext HX1.out).cell 13
  go_wp2_with fail
  refine (HD2.out w1 HX1.out).mono ?_
  rintro e w2 ⟨rfl, hx2⟩
  have HX2 := Lib.hid hx2; clear hx2
  go_wp2
  go_ret
  exact ⟨rfl, HX0.out.tr (HX1.out.tr HX2.out)⟩
end Go.Proofs.YtnefafkdfcmmfaaGreatDoor
