/- The walks of Names and its closure. -/
import Derived.Test.YtnefafkdfcmmfaaGreatDoorNames2
import Derived.Test.YtnefafkdfcmmfaaGreatDoorAns
namespace Go.Proofs.YtnefafkdfcmmfaaGreatDoor
open Go.RowKit

def AllowPost (ok : Bool) (rs kd : Int) (w : World) (e : Ending) (w' : World) : Prop := ∃ ev, e = .returned ev ∧ ToldAs ev w' ok rs kd ∧ Ext w w'
set_option maxHeartbeats 8000000 in
set_option maxRecDepth 100000 in
theorem names1_any (g b1 b2 b3 b4 b5 : Nat) (d m : Sl) (Ai Au : Option Addr) (n c nu cu : Nat) (bs : List (List UInt8)) (x : ByteArray) (ok : Bool) (rs kd : Int) (w : World)
    (h1 : w.cell? ⟨b1, 0, none⟩ = some d.val) (h2 : w.cell? ⟨b2, 0, none⟩ = some (.slice Ai n c)) (h3 : w.cell? ⟨b3, 0, none⟩ = some m.val) (h4 : w.cell? ⟨b4, 0, none⟩ = some (.slice Au nu cu)) (h5 : w.cell? ⟨b5, 0, none⟩ = some (.string x))
    (hd : d.ok w) (hdn : d.n ≤ 20) (hm : m.ok w) (hmn : m.n ≤ 20) (hr : RdB w Ai n bs) (hn : n ≤ 20) (hb4 : ∀ b ∈ bs, b.length = 4)
    (hA : ∀ A1 c1 A2 c2 A3 c3 w', Ext w w' → Calls Tryz.prog 36 #[.pointer (some ⟨g, 0, none⟩), .slice A1 d.n c1, .slice A2 n c2, .slice A3 m.n c3, .slice Au nu cu, .string x] w' (AllowPost ok rs kd w')) :
    Calls Tryz.prog 35 #[.pointer (some ⟨g, 0, none⟩), .pointer (some ⟨b1, 0, none⟩), .pointer (some ⟨b2, 0, none⟩), .pointer (some ⟨b3, 0, none⟩), .pointer (some ⟨b4, 0, none⟩), .pointer (some ⟨b5, 0, none⟩)] w (AllowPost ok rs kd w) := by
  have HD := Lib.hid hd; have HM := Lib.hid hm; have HR := Lib.hid hr; have H4 := Lib.hid hb4; have HA := Lib.hid hA
  clear hd hm hr hb4 hA
  go_enter Tryz.func35, Tryz.ntmps35
  go_wp2
  go_region_held3 (fun w' => Ext w w' ∧ w'.cell? ⟨b1, 0, none⟩ = some d.val ∧ w'.cell? ⟨b2, 0, none⟩ = some (.slice Ai n c) ∧ w'.cell? ⟨b3, 0, none⟩ = some m.val ∧ w'.cell? ⟨b4, 0, none⟩ = some (.slice Au nu cu) ∧ w'.cell? ⟨b5, 0, none⟩ = some (.string x)) (first | exact ⟨Ext.drew (Ext.refl _), h1, h2, h3, h4, h5⟩ | exact ⟨by assumption, Ext.cell (by assumption) h1, Ext.cell (by assumption) h2, Ext.cell (by assumption) h3, Ext.cell (by assumption) h4, Ext.cell (by assumption) h5⟩) (first
    | (go_at_call 37; (refine (clone_any _ _ ?cok ?cn).mono ?_); (case cok => first | exact HD.out.ext (by first | assumption | exact And.left (by assumption)) | exact HM.out.ext (by first | assumption | exact And.left (by assumption))); (case cn => first | exact hdn | exact hmn); rintro _ _ ⟨⟨_, n', _, _⟩, rfl, _, hn', _, hcx⟩; simp only at hn'; subst hn'; have hcy := Ext.tr (by first | assumption | exact And.left (by assumption)) hcx)
    | (go_at_call 38; (refine (ZZIPs_any Ai n c bs _ (HR.out.ext (by first | assumption | exact And.left (by assumption))) hn H4.out).mono ?_); rintro _ _ ⟨_, _, rfl, hcx⟩; have hcy := Ext.tr (by first | assumption | exact And.left (by assumption)) hcx)
    | (go_at_call 36; (refine (HA.out _ _ _ _ _ _ _ (by first | assumption | exact And.left (by assumption))).mono ?_); rintro _ wz ⟨ev, rfl, htold, hcx⟩; have HT := Lib.hid htold; clear htold; have hcy := Ext.tr (by first | assumption | exact And.left (by assumption)) hcx; have HZ := Lib.hid hcy))
  go_wp2
  go_ret
  exact ⟨ev, rfl, HT.out, HZ.out⟩
theorem call_names1 (args : Array Value) (w : World) : (callFunc 35 args).run Tryz.prog w = .ok (.enter 35 args) w := by
  unfold callFunc
  simp [go_sem, Tryz.func35, Tryz.f35]
theorem info_urip : (Tryz.prog.info? 53).map (fun i => (i.zero, i.size, i.bytes)) = some (some (.pointer none), 1, 8) := by kernel_rfl
/-- A text that is read as a URI. -/
def UriT (y : ByteArray) : Prop := TakenT y ∧ ∀ w, Calls Tryz.prog 34 #[.string y] w (fun e w' => ∃ b, e = .returned (.tuple #[.pointer (some ⟨b, 0, none⟩), .nilIface]) ∧ Ext w w')
theorem own_far {w : World} {base : Nat} {e : TypeId} {size : Nat} {v : Value} {n : Nat} {xs : List Value} (h : w.ownsRow base e size v n xs) {g i : Nat} (hg : g < base) (u : Value) : (w.setCell ⟨g, i, none⟩ u).ownsRow base e size v n xs := by
  refine ⟨h.1, ?_⟩
  rcases h.2 with h2 | ⟨k, cap, cur, h3, h4, h5, h6⟩
  · exact .inl h2
  · exact .inr ⟨k, cap, cur, h3, h4, (Below.heap_setCell w ⟨g, i, none⟩ u k (by show k ≠ g; omega)).trans h5, h6⟩
set_option maxHeartbeats 8000000 in
set_option maxRecDepth 100000 in
theorem Names_any (q : Pol) (a : AE) (x : ByteArray) (d m : Sl) (Au : Option Addr) (nu cu : Nat) (us : List ByteArray) (Ai : Option Addr) (n c : Nat) (bs : List (List UInt8)) (ok : Bool) (rs kd : Int) (w : World)
    (hM : ∀ w', Ext w w' → Calls Tryz.prog 27 #[q.val] w' (MadePost w' a))
    (hd : d.ok w) (hdn : d.n ≤ 20) (hdf : ∀ y ∈ d.xs, fineT y) (hm : m.ok w) (hmn : m.n ≤ 20) (hmf : ∀ y ∈ m.xs, fineT y)
    (hu : RdS w Au nu us) (hun : nu ≤ 20) (huf : ∀ y ∈ us, UriT y) (hx : TakenT x) (hr : RdB w Ai n bs) (hn : n ≤ 20) (hb4 : ∀ b ∈ bs, b.length = 4)
    (hA : ∀ g a' w', Ext w w' → EngFin w' g a' → Like a a' → ∀ A1 c1 A2 c2 A3 c3 A4 c4, Calls Tryz.prog 36 #[.pointer (some ⟨g, 0, none⟩), .slice A1 d.n c1, .slice A2 n c2, .slice A3 m.n c3, .slice A4 nu c4, .string x] w' (AllowPost ok rs kd w')) :
    Calls Tryz.prog 17 #[q.val, .string x, d.val, .slice Ai n c, m.val, .slice Au nu cu] w (fun e w' => e = .returned (.tuple #[.bool ok, .int .i64 rs, .int .i64 kd]) ∧ Ext w w') := by
  have HMD := Lib.hid hM
  have HD := Lib.hid hd; have HDF := Lib.hid hdf; have HM := Lib.hid hm; have HMF := Lib.hid hmf; have HU := Lib.hid hu; have HUF := Lib.hid huf; have HXT := Lib.hid hx
  have HR := Lib.hid hr; have H4 := Lib.hid hb4; have HA := Lib.hid hA
  clear hM hd hdf hm hmf hu huf hx hr hb4 hA
  obtain ⟨i0, hi, hz0, hz1, hz2⟩ := info_parts info_urip
  have hmk : ∀ (fn : Fn) (first cap : Array Value) (w : World), (Instr.makeFunc fn first cap).run Tryz.prog w = .ok (.func fn first cap) w := fun _ _ _ _ => rfl
  have HX0 : Hid (Ext w (((((w.alloc (.cells q.cells 24)).alloc (.cells #[.string x] 9)).alloc (.cells #[d.val] 22)).alloc (.cells #[.slice Ai n c] 38)).alloc (.cells #[m.val] 22))) := (((((Ext.refl w).alloc _).alloc _).alloc _).alloc _).alloc _
  have HB0 : Hid (Blk (((((w.alloc (.cells q.cells 24)).alloc (.cells #[.string x] 9)).alloc (.cells #[d.val] 22)).alloc (.cells #[.slice Ai n c] 38)).alloc (.cells #[m.val] 22)) w.heap.size 24 q.cells) := ((((Blk.new w _ _).alloc _).alloc _).alloc _).alloc _
  have HB1 : Hid (Blk (((((w.alloc (.cells q.cells 24)).alloc (.cells #[.string x] 9)).alloc (.cells #[d.val] 22)).alloc (.cells #[.slice Ai n c] 38)).alloc (.cells #[m.val] 22)) (w.heap.size + 1) 9 #[.string x]) := by
    have := Blk.new (w.alloc (.cells q.cells 24)) 9 #[.string x]
    rw [World.size_alloc] at this
    exact ((this.alloc _).alloc _).alloc _
  have HB2 : Hid (Blk (((((w.alloc (.cells q.cells 24)).alloc (.cells #[.string x] 9)).alloc (.cells #[d.val] 22)).alloc (.cells #[.slice Ai n c] 38)).alloc (.cells #[m.val] 22)) (w.heap.size + 1 + 1) 22 #[d.val]) := by
    have := Blk.new ((w.alloc (.cells q.cells 24)).alloc (.cells #[.string x] 9)) 22 #[d.val]
    rw [World.size_alloc, World.size_alloc] at this
    exact (this.alloc _).alloc _
  have HB3 : Hid (Blk (((((w.alloc (.cells q.cells 24)).alloc (.cells #[.string x] 9)).alloc (.cells #[d.val] 22)).alloc (.cells #[.slice Ai n c] 38)).alloc (.cells #[m.val] 22)) (w.heap.size + 1 + 1 + 1) 38 #[.slice Ai n c]) := by
    have := Blk.new (((w.alloc (.cells q.cells 24)).alloc (.cells #[.string x] 9)).alloc (.cells #[d.val] 22)) 38 #[.slice Ai n c]
    rw [World.size_alloc, World.size_alloc, World.size_alloc] at this
    exact this.alloc _
  have HB4 : Hid (Blk (((((w.alloc (.cells q.cells 24)).alloc (.cells #[.string x] 9)).alloc (.cells #[d.val] 22)).alloc (.cells #[.slice Ai n c] 38)).alloc (.cells #[m.val] 22)) (w.heap.size + 1 + 1 + 1 + 1) 22 #[m.val]) := by
    have := Blk.new ((((w.alloc (.cells q.cells 24)).alloc (.cells #[.string x] 9)).alloc (.cells #[d.val] 22)).alloc (.cells #[.slice Ai n c] 38)) 22 #[m.val]
    rw [World.size_alloc, World.size_alloc, World.size_alloc, World.size_alloc] at this
    exact this
  go_enter Tryz.func17, Tryz.ntmps17
  go_wp2_with fail
  generalize ((((w.alloc (.cells q.cells 24)).alloc (.cells #[.string x] 9)).alloc (.cells #[d.val] 22)).alloc (.cells #[.slice Ai n c] 38)).alloc (.cells #[m.val] 22) = W0 at HX0 HB0 HB1 HB2 HB3 HB4 ⊢
  refine (right_any d.A d.n d.c d.xs W0 (HD.out.1.ext HX0.out) hdn HDF.out).mono ?_
  rintro e w1 ⟨rfl, hb1⟩
  have HX1 := Lib.hid hb1; clear hb1
  have k4 : w1.cell? ⟨w.heap.size + 1 + 1 + 1 + 1, 0, none⟩ = some m.val := (HB4.out.ext HX1.out).cell 0
  go_wp2_with fail
  refine (right_any m.A m.n m.c m.xs _ (HM.out.1.ext (HX0.out.tr HX1.out)) hmn HMF.out).mono ?_
  rintro e w2 ⟨rfl, hb2⟩
  have HX2 := Lib.hid (HX1.out.tr hb2); clear hb2 k4
  go_wp2_with fail
  refine (taken_any Au nu cu us _ (HU.out.ext (HX0.out.tr HX2.out)) hun (fun y hy => (HUF.out y hy).1)).mono ?_
  rintro e w3 ⟨rfl, hb3⟩
  have HX3 := Lib.hid (HX2.out.tr hb3); clear hb3
  have k1 : w3.cell? ⟨w.heap.size + 1, 0, none⟩ = some (.string x) := (HB1.out.ext HX3.out).cell 0
  go_wp2_with fail
  refine (taken_any (some ⟨w3.heap.size, 0, none⟩) 1 1 [x] _ ⟨rfl, by omega, fun j hj => ⟨_, rfl, ?_⟩⟩ (by omega) (fun y hy => by simp at hy; subst hy; exact HXT.out)).mono ?_
  · obtain rfl : j = 0 := by simp at hj; exact hj
    exact (Blk.new w3 9 #[.string x]).cell 0
  rintro e w4 ⟨rfl, hb4⟩
  have HX4 := Lib.hid (((HX3.out.alloc _).tr hb4)); clear hb4 k1
  have k3 : w4.cell? ⟨w.heap.size + 1 + 1 + 1, 0, none⟩ = some (.slice Ai n c) := (HB3.out.ext HX4.out).cell 0
  have h20 : ¬ (20 : Int) < (n : Int) := by omega
  go_wp2
  go_loopw [48] (fun i wr => ∃ k : Nat, i = .int .i64 k ∧ k ≤ n ∧ wr = w4) (fun i _ => n - (intOf i).toNat)
  case atStart => exact ⟨0, rfl, by omega, rfl⟩
  case round =>
    obtain ⟨k, rfl, hk, rfl⟩ := hrel
    by_cases hlt : k < n
    · have hkx : k < bs.length := by rw [HR.out.1]; exact hlt
      obtain ⟨ad, ve, rfl, hc, A2, c2, rfl, hl2, hby⟩ := (HR.out.ext (HX0.out.tr HX4.out)).2.2 k hkx
      have hl4 : (bs[k]).length = 4 := H4.out _ (List.getElem_mem hkx)
      rw [hl4] at hc
      clear hby hl2 hl4
      go_wp2
      go_roundw
      case rel => first | exact ⟨k + 1, by go_num, by omega, rfl⟩ | exact ⟨k + 1, by go_num, by omega, trivial⟩
      case measure => simp [intOf]; omega
    · clear k3
      have hBL : Blk (wr.alloc (.cells #[.slice none 0 0] 52)) wr.heap.size 52 #[.slice none 0 0] := Blk.new _ _ _
      have hlt4 : w.heap.size + 1 + 1 + 1 + 1 < wr.heap.size := (HB4.out.ext HX4.out).lt
      have hun2 := HU.out.2.1
      obtain ⟨wo, rfl⟩ : ∃ wo : World, wo = wr := ⟨_, rfl⟩
      have HWL : Hid (Ext wo (wo.alloc (.cells #[.slice none 0 0] 52))) := (Ext.refl _).alloc _
      have HBL := Lib.hid hBL
      clear hBL
      go_wp2
      clear hlt hk
      go_loopw [63] (fun i wz => ∃ (k : Nat) (v : Value) (vs : List Value), i = .int .i64 k ∧ k ≤ nu ∧ Ext wo wz ∧ Blk wz wo.heap.size 52 #[v] ∧ wz.ownsRow (wo.heap.size + 1) 53 1 v k vs) (fun i _ => nu - (intOf i).toNat)
      case atStart => exact ⟨0, _, [], rfl, by omega, HWL.out, HBL.out, at0⟩
      case round =>
        obtain ⟨k, v, vs, rfl, hk, hxz, hbl, hown⟩ := hrel
        obtain ⟨Av, cv, rfl⟩ := own_slice hown
        have HO := Lib.hid hown; have HXZ := Lib.hid hxz; have HBZ := Lib.hid hbl
        clear hown hxz hbl
        by_cases hlt : k < nu
        · have hkx : k < us.length := by rw [HU.out.1]; exact hlt
          obtain ⟨ad, rfl, hc⟩ := (HU.out.ext (HX0.out.tr (HX4.out.tr HXZ.out))).2.2 k hkx
          obtain ⟨s, hs⟩ : ∃ s, s = us[k] := ⟨_, rfl⟩
          rw [← hs] at hc
          have hsm : UriT s := by rw [hs]; exact HUF.out _ (List.getElem_mem hkx)
          have HSM := Lib.hid hsm
          clear hs hsm
          go_wp2_with fail
          refine (HSM.out.2 _).mono ?_
          rintro e w5 ⟨b, rfl, hb5⟩
          have HX5 := Lib.hid (HXZ.out.tr hb5)
          have HB5 := Lib.hid (HBZ.out.ext hb5)
          have HO5 := Lib.hid (own_ext HO.out hb5)
          clear hb5
          have hcl : w5.cell? ⟨wo.heap.size, 0, none⟩ = some (.slice Av k cv) := HB5.out.cell 0
          have hsz5 := HB5.out.lt
          go_wp2_with (at_builtin; refine wpList_append_own _ rfl (.tmp 74) (.tmp 76) 52 rfl (wo.heap.size + 1) 53 i0 (.pointer none) 1 8 Tryz.underlying52 hi hz0 hz1 hz2 rfl (by decide) (.slice Av k cv) k vs rfl (HO5.out.alloc _) ⟨w5.heap.size, 0, none⟩ 1 1 [.pointer (some ⟨b, 0, none⟩)] rfl rfl (one_new _ _ _) (by intro z hz; simp at hz; subst hz; rfl) (by unfold maxLen; omega) (by omega) (by simp; omega) ?_; intro v2 w6 hown2 hgrow2 _; obtain ⟨A6, c6, rfl⟩ := own_slice hown2; have HX6 := Lib.hid ((Ext.alloc HX5.out _).grown hgrow2 (by have := HX5.out.size; simp; omega) (fun j hj => Nat.le_trans (by omega) (own_lo HO5.out j hj))); have HB6 : Hid (Blk w6 wo.heap.size 52 #[.slice Av k cv]) := (hgrow2.block wo.heap.size (by simp; omega) (fun e => by have := own_lo HO5.out wo.heap.size e.symm; omega)).trans (HB5.out.alloc _); have HO6 := Lib.hid hown2; clear hown2 hgrow2; have hcl6 : w6.cell? ⟨wo.heap.size, 0, none⟩ = some (.slice Av k cv) := HB6.out.cell 0; have hfr6 : w6.frozen? ⟨wo.heap.size, 0, none⟩ = false := HB6.out.frozen 0)
          go_roundw
          case rel => exact ⟨k + 1, _, _, by go_num, by omega, Below.setCell HX6.out (Nat.le_refl _) _, HB6.out.set_ 0 _, own_far HO6.out (by omega) _⟩
          case measure => simp [intOf]; omega
        · obtain rfl : k = nu := by omega
          have HBQ : Hid (Blk wr w.heap.size 24 q.cells) := HB0.out.ext (HX4.out.tr HXZ.out)
          have HAL := Lib.hid (fun (w' : World) (hw' : Ext wr w') => HMD.out w' (HX0.out.tr (HX4.out.tr (HXZ.out.tr hw'))))
          have l0 : wr.cell? ⟨w.heap.size, 0, none⟩ = some q.dns.val := HBQ.out.cell 0
          have l1 : wr.cell? ⟨w.heap.size, 1, none⟩ = some q.ndns.val := HBQ.out.cell 1
          have l2 : wr.cell? ⟨w.heap.size, 2, none⟩ = some q.ip.val := HBQ.out.cell 2
          have l3 : wr.cell? ⟨w.heap.size, 3, none⟩ = some q.nip.val := HBQ.out.cell 3
          have l4 : wr.cell? ⟨w.heap.size, 4, none⟩ = some q.em.val := HBQ.out.cell 4
          have l5 : wr.cell? ⟨w.heap.size, 5, none⟩ = some q.nem.val := HBQ.out.cell 5
          have l6 : wr.cell? ⟨w.heap.size, 6, none⟩ = some q.uri.val := HBQ.out.cell 6
          have l7 : wr.cell? ⟨w.heap.size, 7, none⟩ = some q.nuri.val := HBQ.out.cell 7
          have l8 : wr.cell? ⟨w.heap.size, 8, none⟩ = some q.cn.val := HBQ.out.cell 8
          have l9 : wr.cell? ⟨w.heap.size, 9, none⟩ = some q.ncn.val := HBQ.out.cell 9
          have l10 : wr.cell? ⟨w.heap.size, 10, none⟩ = some q.pr.val := HBQ.out.cell 10
          have l11 : wr.cell? ⟨w.heap.size, 11, none⟩ = some q.npr.val := HBQ.out.cell 11
          have l12 : wr.cell? ⟨w.heap.size, 12, none⟩ = some (.bool q.lit) := HBQ.out.cell 12
          have l13 : wr.cell? ⟨w.heap.size, 13, none⟩ = some (.bool q.ver) := HBQ.out.cell 13
          have HASK : Hid (∀ w', Ext wr w' → Calls Tryz.prog 29 #[q.val, .func (.func 35) #[] #[.pointer (some ⟨w.heap.size + 1 + 1, 0, none⟩), .pointer (some ⟨w.heap.size + 1 + 1 + 1, 0, none⟩), .pointer (some ⟨w.heap.size + 1 + 1 + 1 + 1, 0, none⟩), .pointer (some ⟨wo.heap.size, 0, none⟩), .pointer (some ⟨w.heap.size + 1, 0, none⟩)]] w' (fun e w2 => e = .returned (.tuple #[.bool ok, .int .i64 rs, .int .i64 kd]) ∧ Ext w' w2)) := by
            intro w' hw'
            refine asked_any q a _ _ ok rs kd w' (fun w2 h2 => HAL.out w2 (hw'.tr h2)) call_names1 ?_
            intro g a' w2 h2 hfin hlike
            have hx02 : Ext W0 w2 := HX4.out.tr (HXZ.out.tr (hw'.tr h2))
            have hxw2 : Ext w w2 := HX0.out.tr hx02
            exact names1_any g _ _ _ _ _ d m Ai Av n c k cv bs x ok rs kd w2 ((HB2.out.ext hx02).cell 0) ((HB3.out.ext hx02).cell 0) ((HB4.out.ext hx02).cell 0) ((HBZ.out.ext (hw'.tr h2)).cell 0) ((HB1.out.ext hx02).cell 0) (HD.out.ext hxw2) hdn (HM.out.ext hxw2) hmn (HR.out.ext hxw2) hn H4.out (fun A1 c1 A2 c2 A3 c3 w3 h3 => HA.out g a' w3 (hxw2.tr h3) (hfin.ext h3) hlike A1 c1 A2 c2 A3 c3 Av cv)
          go_wp2_with fail
          refine (HASK.out wr (Ext.refl _)).mono ?_
          rintro e w7 ⟨rfl, hx7⟩
          have HX7 := Lib.hid hx7; clear hx7
          go_wp2
          go_ret3
          exact ⟨rfl, HX0.out.tr (HX4.out.tr (HXZ.out.tr HX7.out))⟩
end Go.Proofs.YtnefafkdfcmmfaaGreatDoor
