/- The walk of validateNames: no names, and one DNS name. -/
import Derived.Test.YtnefafkdfcmmfaaGreatDoorMatchD
namespace Go.Proofs.YtnefafkdfcmmfaaGreatDoor
open Go.RowKit

theorem vn1_any (g b1 b2 : Nat) (lit : Bool) (d c : ByteArray) (w : World) (hp : w.cell? ⟨b1, 0, none⟩ = some (.pointer (some ⟨g, 0, none⟩))) (hs : w.cell? ⟨b2, 0, none⟩ = some (.string d))
    (hE : w.cell? ⟨g, 1, none⟩ = some (.bool lit)) (hsd : d.size ≤ 1000) (hsc : c.size ≤ 1000) (hd : Pl.DomN (bl d)) (hc : Pl.ConN (bl c)) :
    Calls Tryz.prog 100 #[.string c, .pointer (some ⟨b1, 0, none⟩), .pointer (some ⟨b2, 0, none⟩)] w (MatchPost (Pl.matchD lit (bl d) (bl c)) w) := by
  have HM := Lib.hid (matchD_any g lit d c w hE hsd hsc hd hc)
  clear hd hc
  go_enter Tryz.func100, Tryz.ntmps100
  go_wp2_with fail
  refine HM.out.mono ?_
  rintro e w1 ⟨rfl, hb⟩
  go_wp2
  go_ret2
  exact ⟨rfl, hb⟩
theorem call_vn1 (args : Array Value) (w : World) : (callFunc 100 args).run Tryz.prog w = .ok (.enter 100 args) w := by
  unfold callFunc
  simp [go_sem, Tryz.func100, Tryz.f100]

set_option maxHeartbeats 1000000 in
set_option maxRecDepth 100000 in
/-- Where there are no constraints. -/
theorem vn_zero (g : Nat) (v1 v2 v3 v4 v5 : Value) (w : World) (h : w.cell? ⟨g, 22, none⟩ = some (.int .i64 0)) :
    Calls Tryz.prog 64 #[.pointer (some ⟨g, 0, none⟩), v1, v2, v3, v4, v5] w (fun e w' => e = .returned .nilIface ∧ Ext w w') := by
  have hlt : g < w.heap.size := World.block_lt_of_cell? w _ h
  go_enter Tryz.func64, Tryz.ntmps64
  go_wp2
  go_ret
  exact ⟨rfl, (Ext.refl w).alloc _⟩

set_option maxHeartbeats 4000000 in
set_option maxRecDepth 100000 in
/-- No names. -/
theorem vn_none (g : Nat) (A1 A2 A3 A4 A5 : Option Addr) (c1 c2 c3 c4 c5 : Nat) (k : Int) (w : World) (h : w.cell? ⟨g, 22, none⟩ = some (.int .i64 k)) (hk : (k == 0) = false) :
    Calls Tryz.prog 64 #[.pointer (some ⟨g, 0, none⟩), .slice A1 0 c1, .slice A2 0 c2, .slice A3 0 c3, .slice A4 0 c4, .slice A5 0 c5] w (fun e w' => e = .returned .nilIface ∧ Ext w w') := by
  have hlt : g < w.heap.size := World.block_lt_of_cell? w _ h
  go_enter Tryz.func64, Tryz.ntmps64
  go_wp2
  have HX : Hid (Ext w (w.alloc (.cells #[.pointer (some ⟨g, 0, none⟩)] 43))) := (Ext.refl w).alloc _
  generalize w.alloc (.cells #[.pointer (some ⟨g, 0, none⟩)] 43) = w1 at HX ⊢
  go_loopw [44] (fun i wr => i = .int .i64 0 ∧ wr = w1) (fun _ _ => 0)
  case atStart => exact ⟨rfl, rfl⟩
  case round =>
    obtain ⟨rfl, rfl⟩ := hrel
    go_wp2
    go_loopw [111] (fun i wz => i = .int .i64 0 ∧ wz = wr) (fun _ _ => 0)
    case atStart => exact ⟨rfl, rfl⟩
    case round =>
      obtain ⟨rfl, rfl⟩ := hrel
      go_wp2
      go_loopw [150] (fun i wz => i = .int .i64 0 ∧ wz = wr) (fun _ _ => 0)
      case atStart => exact ⟨rfl, rfl⟩
      case round =>
        obtain ⟨rfl, rfl⟩ := hrel
        go_wp2
        go_loopw [212] (fun i wz => i = .int .i64 0 ∧ wz = wr) (fun _ _ => 0)
        case atStart => exact ⟨rfl, rfl⟩
        case round =>
          obtain ⟨rfl, rfl⟩ := hrel
          go_wp2
          go_loopw [251] (fun i wz => i = .int .i64 0 ∧ wz = wr) (fun _ _ => 0)
          case atStart => exact ⟨rfl, rfl⟩
          case round =>
            obtain ⟨rfl, rfl⟩ := hrel
            go_wp2
            go_ret
            exact ⟨rfl, HX.out⟩
theorem dom_small {d : List UInt8} (h : Pl.DomN d) : Pl.DomN (Pl.small d) := by
  rcases h with h | ⟨r, rfl, h⟩
  · exact .inl (by rw [Pl.small_name]; exact h)
  · exact .inr ⟨Pl.small r, rfl, by rw [Pl.small_name]; exact h⟩
theorem has_star (x : ByteArray) : Lib.hasPrefix x.data.toList (ByteArray.data ⟨#[42, 46]⟩).toList = List.isPrefixOf [42, 46] (bl x) := rfl

set_option maxHeartbeats 8000000 in
set_option maxRecDepth 100000 in
/-- One DNS name, where no constraint speaks of DNS names, and others permit. -/
theorem vn_other (g : Nat) (A1 A2 A3 A4 A5 : Option Addr) (c1 c2 c3 c4 c5 : Nat) (x : ByteArray) (k k7 : Int) (w : World) (h : w.cell? ⟨g, 22, none⟩ = some (.int .i64 k)) (hk : (k == 0) = false)
    (h2 : w.cell? ⟨g, 15, none⟩ = some (.int .i64 0)) (h7 : w.cell? ⟨g, 20, none⟩ = some (.int .i64 k7)) (hk7 : 0 < k7) (hr : RdS w A1 1 [x]) :
    Calls Tryz.prog 64 #[.pointer (some ⟨g, 0, none⟩), .slice A1 1 c1, .slice A2 0 c2, .slice A3 0 c3, .slice A4 0 c4, .slice A5 0 c5] w (NotPost false ⟨#[100, 110, 115]⟩ x w) := by
  have hlt : g < w.heap.size := World.block_lt_of_cell? w _ h
  obtain ⟨ad, rfl, hcx⟩ := hr.2.2 0 (by simp)
  have hcx : w.cell? ad = some (.string x) := hcx
  have hla : ad.block < w.heap.size := World.block_lt_of_cell? w _ hcx
  clear hr
  go_enter Tryz.func64, Tryz.ntmps64
  go_wp2
  have HX : Hid (Ext w (w.alloc (.cells #[.pointer (some ⟨g, 0, none⟩)] 43))) := (Ext.refl w).alloc _
  have hc0 : (w.alloc (.cells #[.pointer (some ⟨g, 0, none⟩)] 43)).cell? ⟨w.heap.size, 0, none⟩ = some (.pointer (some ⟨g, 0, none⟩)) := (Blk.new w _ _).cell 0
  have hz2 := HX.out.cell h2
  have hz7 := HX.out.cell h7
  have hzx := HX.out.cell hcx
  generalize w.alloc (.cells #[.pointer (some ⟨g, 0, none⟩)] 43) = w1 at HX hc0 hz2 hz7 hzx ⊢
  clear h h2 h7 hcx
  have had : ad.add 0 = ad := rfl
  go_loopw [14, 44] (fun _ i wr => i = .int .i64 0 ∧ wr = w1) (fun _ _ _ => 0)
  case atStart => exact ⟨rfl, rfl⟩
  case round =>
    obtain ⟨rfl, rfl⟩ := hrel
    go_wp2
    go_ret
    exact ⟨HX.out.alloc _, wr.heap.size, HX.out.size, rfl, Blk.new _ _ _⟩

/-- What one DNS name is held against. -/
def dnsOk (a : AE) (x : List UInt8) : Bool := allows (Pl.matchD a.lit (Pl.small x)) a.dns a.ndns
set_option maxHeartbeats 8000000 in
set_option maxRecDepth 100000 in
/-- One DNS name. -/
theorem vn_one (g : Nat) (A1 A2 A3 A4 A5 : Option Addr) (c1 c2 c3 c4 c5 : Nat) (x : ByteArray) (a : AE) (w : World) (hE : EngFin w g a) (hne : 0 < a.dns.length + a.ndns.length)
    (hx : Pl.DomN (bl x)) (hsx : x.size ≤ 900) (hcon : ∀ c, c ∈ a.dns ∨ c ∈ a.ndns → Pl.ConN c ∧ c.length ≤ 1000) (hr : RdS w A1 1 [x]) :
    Calls Tryz.prog 64 #[.pointer (some ⟨g, 0, none⟩), .slice A1 1 c1, .slice A2 0 c2, .slice A3 0 c3, .slice A4 0 c4, .slice A5 0 c5] w (NotPost (dnsOk a (bl x)) ⟨#[100, 110, 115]⟩ x w) := by
  obtain ⟨f, hE, hcn⟩ := hE
  have hlt := hE.blk.lt
  obtain ⟨ad, rfl, hcx⟩ := hr.2.2 0 (by simp)
  have hcx : w.cell? ad = some (.string x) := hcx
  have hla : ad.block < w.heap.size := World.block_lt_of_cell? w _ hcx
  clear hr
  have h22 : w.cell? ⟨g, 22, none⟩ = some (.int .i64 f.k9) := hE.blk.cell 22
  have h15 : w.cell? ⟨g, 15, none⟩ = some (.int .i64 f.k2) := hE.blk.cell 15
  have hk9 : (f.k9 == 0) = false := by
    have h1 := hcn
    unfold Counted at h1
    rw [beq_eq_false_iff_ne]
    omega
  have hk2 : (f.k2 == 0) = false := by
    have h1 := hcn
    unfold Counted at h1
    rw [beq_eq_false_iff_ne]
    omega
  have HE := Lib.hid hE; clear hE hcn hne
  have HCON := Lib.hid hcon; clear hcon
  have HXD := Lib.hid hx; clear hx
  go_enter Tryz.func64, Tryz.ntmps64
  go_wp2
  have HX : Hid (Ext w (w.alloc (.cells #[.pointer (some ⟨g, 0, none⟩)] 43))) := (Ext.refl w).alloc _
  have HB0 : Hid (Blk (w.alloc (.cells #[.pointer (some ⟨g, 0, none⟩)] 43)) w.heap.size 43 #[.pointer (some ⟨g, 0, none⟩)]) := Blk.new w _ _
  generalize hB : w.heap.size = B at HB0 hlt hla ⊢
  generalize w.alloc (.cells #[.pointer (some ⟨g, 0, none⟩)] 43) = w1 at HX HB0 ⊢
  have had : ad.add 0 = ad := rfl
  go_loopw [12, 14, 15, 16, 17, 18, 19, 20, 44] (fun _ _ _ _ _ _ _ _ i wr => (i = .int .i64 0 ∧ wr = w1) ∨ (i = .int .i64 1 ∧ dnsOk a (bl x) = true ∧ Ext w1 wr)) (fun _ _ _ _ _ _ _ _ i _ => 1 - (intOf i).toNat)
  case atStart => exact .inl ⟨rfl, rfl⟩
  case round =>
    rcases hrel with ⟨rfl, rfl⟩ | ⟨rfl, hok, hb⟩
    · have hzx := HX.out.cell hcx
      have hz15 := HX.out.cell h15
      have hc0 : wr.cell? ⟨B, 0, none⟩ = some (.pointer (some ⟨g, 0, none⟩)) := HB0.out.cell 0
      clear hcx h15 h22
      go_wp2_with fail
      refine (Tryz.strings_HasPrefix x _ _).mono ?_
      rintro e w2 ⟨rfl, rfl⟩
      rw [has_star]
      rcases HXD.out with hn | ⟨r, hn, hrn⟩
      · have hpf : List.isPrefixOf [42, 46] (bl x) = false := by
          obtain ⟨x0, r0, e0, l0⟩ := Pl.name_head hn
          rw [e0]; simp [List.isPrefixOf, Ne.symm (Pl.let_ne x0 l0).2]
        rw [hpf]
        clear hpf
        have HN := Lib.hid hn; clear hn
        have hpos : 0 < x.size := con_pos (.inl HN.out)
        obtain ⟨y, hy⟩ : ∃ y, y = mk (Pl.small (bl x)) := ⟨_, rfl⟩
        have HY : Hid (bl y = Pl.small (bl x)) := by unfold Hid; rw [hy, bl_mk]
        have hD0 : Blk (wr.alloc (.cells #[.string x] 9)) wr.heap.size 9 #[.string x] := Blk.new _ _ _
        go_wp2_with fail
        refine (zzLookup_any x _ (by omega) hpos (fun z hz => Pl.isName_mem HN.out z hz)).mono ?_
        rintro e w3 ⟨rfl, hb3⟩
        rw [← hy]
        have hD3 : w3.cell? ⟨wr.heap.size, 0, none⟩ = some (.string x) := (hD0.ext hb3).cell 0
        have hF3 : w3.frozen? ⟨wr.heap.size, 0, none⟩ = false := (hD0.ext hb3).frozen 0
        have HX3 : Hid (Ext wr (w3.setCell ⟨wr.heap.size, 0, none⟩ (.string y))) := Below.setCell (((Ext.refl wr).alloc _).tr hb3) (Nat.le_refl _) _
        have HD4 : Hid (Blk (w3.setCell ⟨wr.heap.size, 0, none⟩ (.string y)) wr.heap.size 9 #[.string y]) := (hD0.ext hb3).set_ 0 _
        clear hD0 hb3 hy
        go_wp2_with fail
        have HDY : Hid (Pl.DomN (bl y)) := by unfold Hid; rw [HY.out]; exact dom_small HXD.out
        have hsy : y.size ≤ 900 := by rw [← bl_length, HY.out, Pl.small, List.length_map, bl_length]; exact hsx
        refine (Rev_any y _ (by omega) (Pl.dom_labs HDY.out).2.1 (Pl.dom_labs HDY.out).2.2 (Pl.dom_vis HDY.out)).mono ?_
        rintro e w4 ⟨A6, n6, c6, xs6, rfl, hr6, hx6, hz6, hb4⟩
        clear hr6 hx6 hz6
        have HX4 := Lib.hid (HX3.out.tr hb4)
        have HD5 := Lib.hid (HD4.out.ext hb4)
        clear hb4 hD3 hF3
        have HE4 := Lib.hid (HE.out.ext (HX.out.tr HX4.out))
        have HB4 := Lib.hid (HB0.out.ext HX4.out)
        obtain ⟨Ap, np, cp, xsp, ep, rp, mp, sp, _⟩ := HE4.out.dns
        obtain ⟨Aq, nq, cq, xsq, eq, rq, mq, sq, _⟩ := HE4.out.ndns
        generalize hDD : wr.heap.size = D at HD5
        have HCHK : Hid (∀ w', Ext w4 w' → Calls Tryz.prog 99 #[.string ⟨#[100, 110, 115]⟩, .string x, .func (.func 100) #[] #[.pointer (some ⟨B, 0, none⟩), .pointer (some ⟨D, 0, none⟩)], .slice Ap np cp, .slice Aq nq cq] w' (NotPost (dnsOk a (bl x)) ⟨#[100, 110, 115]⟩ x w')) := by
          intro w' hw'
          have hcc : ∀ c, c ∈ xsp ∨ c ∈ xsq → Pl.ConN (bl c) ∧ (bl c).length ≤ 1000 := by
            intro c hc
            rcases hc with hc | hc
            · exact HCON.out (bl c) (.inl (by rw [← mp]; exact List.mem_map.2 ⟨c, hc, rfl⟩))
            · exact HCON.out (bl c) (.inr (by rw [← mq]; exact List.mem_map.2 ⟨c, hc, rfl⟩))
          have := chk_any ⟨#[100, 110, 115]⟩ x 100 #[.pointer (some ⟨B, 0, none⟩), .pointer (some ⟨D, 0, none⟩)] (Pl.matchD a.lit (bl y)) Ap Aq np nq cp cq xsp xsq w' (rp.ext hw') (rq.ext hw') call_vn1 (fun c hc w2 hw2 => vn1_any g B D a.lit y c w2 ((HB4.out.ext (hw'.tr hw2)).cell 0) ((HD5.out.ext (hw'.tr hw2)).cell 0) ((HE4.out.ext (hw'.tr hw2)).blk.cell 1) (by omega) (by rw [← bl_length]; exact (hcc c hc).2) HDY.out (hcc c hc).1)
          rw [mp, mq, HY.out] at this
          exact this
        have hg4 : w4.cell? ⟨g, 4, none⟩ = some (.slice Ap np cp) := by rw [← ep]; exact HE4.out.blk.cell 4
        have hg5 : w4.cell? ⟨g, 5, none⟩ = some (.slice Aq nq cq) := by rw [← eq]; exact HE4.out.blk.cell 5
        have hB04 : w4.cell? ⟨B, 0, none⟩ = some (.pointer (some ⟨g, 0, none⟩)) := HB4.out.cell 0
        clear ep rp mp sp eq rq mq sq
        have hmf : ∀ (fn : Fn) (first cap : Array Value) (w : World), (Instr.makeFunc fn first cap).run Tryz.prog w = .ok (.func fn first cap) w := fun _ _ _ _ => rfl
        go_wp2
        cases hok : dnsOk a (bl x) with
        | true =>
          have HC : Hid (∀ w', Ext w4 w' → Calls Tryz.prog 99 #[.string ⟨#[100, 110, 115]⟩, .string x, .func (.func 100) #[] #[.pointer (some ⟨B, 0, none⟩), .pointer (some ⟨D, 0, none⟩)], .slice Ap np cp, .slice Aq nq cq] w' (fun e w2 => e = .returned .nilIface ∧ Ext w' w2)) := fun w' hw' => by
            have h := HCHK.out w' hw'
            rw [hok] at h
            exact h.mono fun e w2 h => ⟨h.2, h.1⟩
          have HOK := Lib.hid hok; clear hok
          go_region_held3 (fun w' => Ext w4 w' ∧ w'.cell? ⟨B, 0, none⟩ = some (.pointer (some ⟨g, 0, none⟩)) ∧ w'.cell? ⟨g, 4, none⟩ = some (.slice Ap np cp) ∧ w'.cell? ⟨g, 5, none⟩ = some (.slice Aq nq cq)) (first | exact ⟨Ext.drew (Ext.refl _), hB04, hg4, hg5⟩ | exact ⟨by assumption, Ext.cell (by assumption) hB04, Ext.cell (by assumption) hg4, Ext.cell (by assumption) hg5⟩) ((go_at_call 99; (refine (HC.out _ (by first | assumption | exact And.left (by assumption))).mono ?_); rintro _ w5 ⟨rfl, hx5⟩; have hx45 := Ext.tr (by first | assumption | exact And.left (by assumption)) hx5))
          go_wp2
          go_roundw
          case rel => exact .inr ⟨rfl, HOK.out, HX4.out.tr hx45⟩
          case measure => simp [intOf]
        | false =>
          have HC : Hid (∀ w', Ext w4 w' → Calls Tryz.prog 99 #[.string ⟨#[100, 110, 115]⟩, .string x, .func (.func 100) #[] #[.pointer (some ⟨B, 0, none⟩), .pointer (some ⟨D, 0, none⟩)], .slice Ap np cp, .slice Aq nq cq] w' (fun e w2 => ∃ b, e = .returned (.iface 96 (.pointer (some ⟨b, 0, none⟩))) ∧ w'.heap.size ≤ b ∧ Blk w2 b 100 #[.int .i64 1, .string ⟨#[100, 110, 115]⟩, .string x] ∧ Ext w' w2)) := fun w' hw' => by
            have h := HCHK.out w' hw'
            rw [hok] at h
            exact h.mono fun e w2 h => by
              obtain ⟨h1, b, h2, h3, h4⟩ := h
              exact ⟨b, h3, h2, h4, h1⟩
          have HOK := Lib.hid hok; clear hok
          go_region_held3 (fun w' => Ext w4 w' ∧ w'.cell? ⟨B, 0, none⟩ = some (.pointer (some ⟨g, 0, none⟩)) ∧ w'.cell? ⟨g, 4, none⟩ = some (.slice Ap np cp) ∧ w'.cell? ⟨g, 5, none⟩ = some (.slice Aq nq cq)) (first | exact ⟨Ext.drew (Ext.refl _), hB04, hg4, hg5⟩ | exact ⟨by assumption, Ext.cell (by assumption) hB04, Ext.cell (by assumption) hg4, Ext.cell (by assumption) hg5⟩) ((go_at_call 99; (refine (HC.out _ (by first | assumption | exact And.left (by assumption))).mono ?_); rintro _ w5 ⟨bb, rfl, hbb, hbk, hx5⟩; have hx45 := Ext.tr (by first | assumption | exact And.left (by assumption)) hx5))
          go_wp2
          go_ret
          refine ⟨HX.out.tr (HX4.out.tr hx45), ?_⟩
          have hno : ∀ (P Q : Prop), Q → (if dnsOk a (bl x) = true then P else Q) := fun P Q hq => by rw [if_neg (by rw [HOK.out]; decide)]; exact hq
          exact hno _ _ ⟨bb, Nat.le_trans (HX.out.tr HX4.out).size hbb, rfl, hbk⟩
      · have hpf : List.isPrefixOf [42, 46] (bl x) = true := by rw [hn]; rfl
        rw [hpf]
        clear hpf
        have HN := Lib.hid hn; clear hn
        have hpos : 1 < x.size := by rw [← bl_length, HN.out]; simp
        have hi1 : (1 : Int) ≤ (x.size : Int) := by omega
        obtain ⟨x2, hx2⟩ : ∃ y, y = x.extract 1 x.size := ⟨_, rfl⟩
        have hbx2 : bl x2 = 46 :: r := by rw [hx2, bl_extract, HN.out]; simp [← bl_length, HN.out]
        obtain ⟨z, hz⟩ : ∃ y, y = mk (Pl.small (bl x2)) := ⟨_, rfl⟩
        obtain ⟨y, hy⟩ : ∃ y : ByteArray, y = ⟨#[42]⟩ ++ z := ⟨_, rfl⟩
        have HY : Hid (bl y = Pl.small (bl x)) := by unfold Hid; rw [hy, hz, hbx2, HN.out]; show (ByteArray.data (_ ++ _)).toList = _; rw [ByteArray.data_append, Array.toList_append]; show [42] ++ bl (mk _) = _; rw [bl_mk]; rfl
        have hs2 : x2.size ≤ 900 := by rw [← bl_length, hbx2]; have := bl_length x; rw [HN.out] at this; simp at this ⊢; omega
        have HNC : Hid (∀ q ∈ bl x2, Pl.isNC q = true) := by
          intro q hq
          rw [hbx2] at hq
          rcases List.mem_cons.1 hq with rfl | hq
          · decide
          · exact Pl.isName_mem hrn q hq
        have hp2 : 0 < x2.size := by rw [← bl_length, hbx2]; simp
        have hD0 : Blk (wr.alloc (.cells #[.string x] 9)) wr.heap.size 9 #[.string x] := Blk.new _ _ _
        have hD1 : Blk (wr.alloc (.cells #[.string x2] 9)) wr.heap.size 9 #[.string x2] := Blk.new _ _ _
        have hzc : ¬ 9223372036854775807 < 1 + z.size := by
          have : z.size = x2.size := by rw [hz, size_mk, Pl.small, List.length_map, bl_length]
          omega
        have HHX : Hid (x2 = x.extract 1 x.size) := hx2
        have HHZ := Lib.hid hz; have HHY := Lib.hid hy
        have HX1 : Hid (Ext wr (wr.alloc (.cells #[.string x2] 9))) := (Ext.refl wr).alloc _
        clear hx2 hz hy hbx2 hrn
        go_wp2_with fail
        rw [← HHX.out]
        refine (zzLookup_any x2 _ (by omega) hp2 HNC.out).mono ?_
        rintro e w3 ⟨rfl, hb3⟩
        rw [← HHZ.out]
        have hD3 : w3.cell? ⟨wr.heap.size, 0, none⟩ = some (.string x2) := (hD1.ext hb3).cell 0
        have hF3 : w3.frozen? ⟨wr.heap.size, 0, none⟩ = false := (hD1.ext hb3).frozen 0
        have HX3 : Hid (Ext wr ((w3.setCell ⟨wr.heap.size, 0, none⟩ (.string z)).setCell ⟨wr.heap.size, 0, none⟩ (.string y))) := Below.setCell (Below.setCell (HX1.out.tr hb3) (Nat.le_refl _) _) (Nat.le_refl _) _
        have HD4 : Hid (Blk ((w3.setCell ⟨wr.heap.size, 0, none⟩ (.string z)).setCell ⟨wr.heap.size, 0, none⟩ (.string y)) wr.heap.size 9 #[.string y]) := ((hD1.ext hb3).set_ 0 _).set_ 0 _
        clear hD0 hD1 hb3
        go_wp2_with fail
        rw [← HHY.out]
        have HDY : Hid (Pl.DomN (bl y)) := by unfold Hid; rw [HY.out]; exact dom_small HXD.out
        have hsy : y.size ≤ 900 := by rw [← bl_length, HY.out, Pl.small, List.length_map, bl_length]; exact hsx
        refine (Rev_any y _ (by omega) (Pl.dom_labs HDY.out).2.1 (Pl.dom_labs HDY.out).2.2 (Pl.dom_vis HDY.out)).mono ?_
        rintro e w4 ⟨A6, n6, c6, xs6, rfl, hr6, hx6, hz6, hb4⟩
        clear hr6 hx6 hz6
        have HX4 := Lib.hid (HX3.out.tr hb4)
        have HD5 := Lib.hid (HD4.out.ext hb4)
        clear hb4 hD3 hF3
        have HE4 := Lib.hid (HE.out.ext (HX.out.tr HX4.out))
        have HB4 := Lib.hid (HB0.out.ext HX4.out)
        obtain ⟨Ap, np, cp, xsp, ep, rp, mp, sp, _⟩ := HE4.out.dns
        obtain ⟨Aq, nq, cq, xsq, eq, rq, mq, sq, _⟩ := HE4.out.ndns
        generalize hDD : wr.heap.size = D at HD5
        have HCHK : Hid (∀ w', Ext w4 w' → Calls Tryz.prog 99 #[.string ⟨#[100, 110, 115]⟩, .string x, .func (.func 100) #[] #[.pointer (some ⟨B, 0, none⟩), .pointer (some ⟨D, 0, none⟩)], .slice Ap np cp, .slice Aq nq cq] w' (NotPost (dnsOk a (bl x)) ⟨#[100, 110, 115]⟩ x w')) := by
          intro w' hw'
          have hcc : ∀ c, c ∈ xsp ∨ c ∈ xsq → Pl.ConN (bl c) ∧ (bl c).length ≤ 1000 := by
            intro c hc
            rcases hc with hc | hc
            · exact HCON.out (bl c) (.inl (by rw [← mp]; exact List.mem_map.2 ⟨c, hc, rfl⟩))
            · exact HCON.out (bl c) (.inr (by rw [← mq]; exact List.mem_map.2 ⟨c, hc, rfl⟩))
          have := chk_any ⟨#[100, 110, 115]⟩ x 100 #[.pointer (some ⟨B, 0, none⟩), .pointer (some ⟨D, 0, none⟩)] (Pl.matchD a.lit (bl y)) Ap Aq np nq cp cq xsp xsq w' (rp.ext hw') (rq.ext hw') call_vn1 (fun c hc w2 hw2 => vn1_any g B D a.lit y c w2 ((HB4.out.ext (hw'.tr hw2)).cell 0) ((HD5.out.ext (hw'.tr hw2)).cell 0) ((HE4.out.ext (hw'.tr hw2)).blk.cell 1) (by omega) (by rw [← bl_length]; exact (hcc c hc).2) HDY.out (hcc c hc).1)
          rw [mp, mq, HY.out] at this
          exact this
        have hg4 : w4.cell? ⟨g, 4, none⟩ = some (.slice Ap np cp) := by rw [← ep]; exact HE4.out.blk.cell 4
        have hg5 : w4.cell? ⟨g, 5, none⟩ = some (.slice Aq nq cq) := by rw [← eq]; exact HE4.out.blk.cell 5
        have hB04 : w4.cell? ⟨B, 0, none⟩ = some (.pointer (some ⟨g, 0, none⟩)) := HB4.out.cell 0
        clear ep rp mp sp eq rq mq sq
        have hmf : ∀ (fn : Fn) (first cap : Array Value) (w : World), (Instr.makeFunc fn first cap).run Tryz.prog w = .ok (.func fn first cap) w := fun _ _ _ _ => rfl
        go_wp2
        cases hok : dnsOk a (bl x) with
        | true =>
          have HC : Hid (∀ w', Ext w4 w' → Calls Tryz.prog 99 #[.string ⟨#[100, 110, 115]⟩, .string x, .func (.func 100) #[] #[.pointer (some ⟨B, 0, none⟩), .pointer (some ⟨D, 0, none⟩)], .slice Ap np cp, .slice Aq nq cq] w' (fun e w2 => e = .returned .nilIface ∧ Ext w' w2)) := fun w' hw' => by
            have h := HCHK.out w' hw'
            rw [hok] at h
            exact h.mono fun e w2 h => ⟨h.2, h.1⟩
          have HOK := Lib.hid hok; clear hok
          go_region_held3 (fun w' => Ext w4 w' ∧ w'.cell? ⟨B, 0, none⟩ = some (.pointer (some ⟨g, 0, none⟩)) ∧ w'.cell? ⟨g, 4, none⟩ = some (.slice Ap np cp) ∧ w'.cell? ⟨g, 5, none⟩ = some (.slice Aq nq cq)) (first | exact ⟨Ext.drew (Ext.refl _), hB04, hg4, hg5⟩ | exact ⟨by assumption, Ext.cell (by assumption) hB04, Ext.cell (by assumption) hg4, Ext.cell (by assumption) hg5⟩) ((go_at_call 99; (refine (HC.out _ (by first | assumption | exact And.left (by assumption))).mono ?_); rintro _ w5 ⟨rfl, hx5⟩; have hx45 := Ext.tr (by first | assumption | exact And.left (by assumption)) hx5))
          go_wp2
          go_roundw
          case rel => exact .inr ⟨rfl, HOK.out, HX4.out.tr hx45⟩
          case measure => simp [intOf]
        | false =>
          have HC : Hid (∀ w', Ext w4 w' → Calls Tryz.prog 99 #[.string ⟨#[100, 110, 115]⟩, .string x, .func (.func 100) #[] #[.pointer (some ⟨B, 0, none⟩), .pointer (some ⟨D, 0, none⟩)], .slice Ap np cp, .slice Aq nq cq] w' (fun e w2 => ∃ b, e = .returned (.iface 96 (.pointer (some ⟨b, 0, none⟩))) ∧ w'.heap.size ≤ b ∧ Blk w2 b 100 #[.int .i64 1, .string ⟨#[100, 110, 115]⟩, .string x] ∧ Ext w' w2)) := fun w' hw' => by
            have h := HCHK.out w' hw'
            rw [hok] at h
            exact h.mono fun e w2 h => by
              obtain ⟨h1, b, h2, h3, h4⟩ := h
              exact ⟨b, h3, h2, h4, h1⟩
          have HOK := Lib.hid hok; clear hok
          go_region_held3 (fun w' => Ext w4 w' ∧ w'.cell? ⟨B, 0, none⟩ = some (.pointer (some ⟨g, 0, none⟩)) ∧ w'.cell? ⟨g, 4, none⟩ = some (.slice Ap np cp) ∧ w'.cell? ⟨g, 5, none⟩ = some (.slice Aq nq cq)) (first | exact ⟨Ext.drew (Ext.refl _), hB04, hg4, hg5⟩ | exact ⟨by assumption, Ext.cell (by assumption) hB04, Ext.cell (by assumption) hg4, Ext.cell (by assumption) hg5⟩) ((go_at_call 99; (refine (HC.out _ (by first | assumption | exact And.left (by assumption))).mono ?_); rintro _ w5 ⟨bb, rfl, hbb, hbk, hx5⟩; have hx45 := Ext.tr (by first | assumption | exact And.left (by assumption)) hx5))
          go_wp2
          go_ret
          refine ⟨HX.out.tr (HX4.out.tr hx45), ?_⟩
          have hno : ∀ (P Q : Prop), Q → (if dnsOk a (bl x) = true then P else Q) := fun P Q hq => by rw [if_neg (by rw [HOK.out]; decide)]; exact hq
          exact hno _ _ ⟨bb, Nat.le_trans (HX.out.tr HX4.out).size hbb, rfl, hbk⟩
    · have HB := Lib.hid hb; clear hb
      have HOK := Lib.hid hok; clear hok
      go_wp2
      go_loopw [111] (fun i wz => i = .int .i64 0 ∧ wz = wr) (fun _ _ => 0)
      case atStart => exact ⟨rfl, rfl⟩
      case round =>
        obtain ⟨rfl, rfl⟩ := hrel
        go_wp2
        go_loopw [150] (fun i wz => i = .int .i64 0 ∧ wz = wr) (fun _ _ => 0)
        case atStart => exact ⟨rfl, rfl⟩
        case round =>
          obtain ⟨rfl, rfl⟩ := hrel
          go_wp2
          go_loopw [212] (fun i wz => i = .int .i64 0 ∧ wz = wr) (fun _ _ => 0)
          case atStart => exact ⟨rfl, rfl⟩
          case round =>
            obtain ⟨rfl, rfl⟩ := hrel
            go_wp2
            go_loopw [251] (fun i wz => i = .int .i64 0 ∧ wz = wr) (fun _ _ => 0)
            case atStart => exact ⟨rfl, rfl⟩
            case round =>
              obtain ⟨rfl, rfl⟩ := hrel
              go_wp2
              go_ret
              exact ⟨HX.out.tr HB.out, by rw [if_pos HOK.out]; rfl⟩
end Go.Proofs.YtnefafkdfcmmfaaGreatDoor
