/- Each closure as an option. -/
import Derived.Test.YtedniebpabfglaaGreatDoorWith
namespace Go.Proofs.YtedniebpabfglaaGreatDoor
open Go.RowKit

theorem info_netp : (Tryz.prog.info? 60).map (fun i => (i.zero, i.size, i.bytes)) = some (some (.pointer none), 1, 8) := by kernel_rfl
theorem OptOK.mono {w0 w1 : World} {fv : Value} {u : AE → AE} (h : OptOK w0 fv u) (hx : Ext w0 w1) : OptOK w1 fv u := by
  obtain ⟨F, cap, h1, h2, h3⟩ := h
  exact ⟨F, cap, h1, h2, fun g a w hw hg hE => h3 g a w (hx.tr hw) (Nat.le_trans hx.size hg) hE⟩
/-- What a closure does that captured a slice with these texts. -/
def OptFor (w : World) (C : FuncId) (xs : List ByteArray) (u : AE → AE) : Prop :=
  ∀ w1 b (s : Sl), Ext w w1 → Blk w1 b 22 #[s.val] → s.ok w1 → s.xs = xs → s.n ≤ 20 → OptOK w1 (.func (.func C) #[] #[.pointer (some ⟨b, 0, none⟩)]) u
theorem caps_of {w1 w : World} {b g : Nat} {s : Sl} (hB : Blk w1 b 22 #[s.val]) (hs : s.ok w1) (hn : s.n ≤ 20) (hx : Ext w1 w) (hg : w1.heap.size ≤ g) : CapS w g b s.A s.n s.c s.xs := by
  refine ⟨hB.ext hx, ?_, hs.1.ext hx, ?_, hn, hs.2⟩
  · have := hB.lt; omega
  · intro ad had hp
    obtain ⟨ad2, e, hc⟩ := hs.1.2.2 0 (by rw [hs.1.1]; exact hp)
    rw [had] at e
    injection e with e
    subst e
    have h1 : ad.add 0 = ad := rfl
    rw [h1] at hc
    have := World.block_lt_of_cell? w1 ad hc
    omega

theorem optfor_dns (w : World) (xs : List ByteArray) (nf : List UInt8 → List UInt8) (hlen : ∀ x ∈ xs, (nf (bl x)).length ≤ 2147483647)
    (hN : ∀ x ∈ xs, ∀ w', Ext w w' → Calls Tryz.prog 40 #[.string x] w' (NormPost (nf (bl x)) w')) :
    OptFor w 39 xs (fun a => { a with dns := xs.map fun x => nf (bl x) }) := by
  intro w1 b s hx hB hs hxs hn
  refine ⟨_, _, rfl, call_o_dns, fun g a w2 hw hg hE => ?_⟩
  subst hxs
  exact opt_dns g b a s.A s.n s.c s.xs nf w2 hE (caps_of hB hs hn hw hg) hlen (fun x hm w' hx' => hN x hm w' ((hx.tr hw).tr hx'))
theorem optfor_ndns (w : World) (xs : List ByteArray) (nf : List UInt8 → List UInt8) (hlen : ∀ x ∈ xs, (nf (bl x)).length ≤ 2147483647)
    (hN : ∀ x ∈ xs, ∀ w', Ext w w' → Calls Tryz.prog 40 #[.string x] w' (NormPost (nf (bl x)) w')) :
    OptFor w 41 xs (fun a => { a with ndns := xs.map fun x => nf (bl x) }) := by
  intro w1 b s hx hB hs hxs hn
  refine ⟨_, _, rfl, call_o_ndns, fun g a w2 hw hg hE => ?_⟩
  subst hxs
  exact opt_ndns g b a s.A s.n s.c s.xs nf w2 hE (caps_of hB hs hn hw hg) hlen (fun x hm w' hx' => hN x hm w' ((hx.tr hw).tr hx'))
set_option maxHeartbeats 1000000 in
set_option maxRecDepth 100000 in
theorem opt_ip0 (g b : Nat) (a : AE) (A : Option Addr) (c : Nat) (w : World) (hE : EngIs w g a) (cb0 : w.cell? ⟨b, 0, none⟩ = some (.slice A 0 c)) :
    Calls Tryz.prog 42 #[.pointer (some ⟨g, 0, none⟩), .pointer (some ⟨b, 0, none⟩)] w (OptPost g { a with ip := [] } w) := by
  obtain ⟨e, he⟩ := hE
  have hcell : w.cell? ⟨g, 6, none⟩ = some e.ip := he.blk.cell 6
  have hfr : w.frozen? ⟨g, 6, none⟩ = false := he.blk.frozen 6
  have hlt := he.blk.lt
  have HW := Lib.hid he; clear he
  obtain ⟨i0, hi, hz0, hz1, hz2⟩ := info_parts info_netp
  go_enter Tryz.func42, Tryz.ntmps42
  go_wp2_with (at_make; refine wpList_make_own _ rfl _ (.tmp 12) 56 rfl w.heap.size 60 i0 (.pointer none) 1 Tryz.underlying56 hi hz0 hz1 .i64 .i64 0 0 rfl rfl rfl (by rw [hz2]; omega) (by unfold maxLen; omega) (by simp) ?_; intro w1 hown hgrow; have cb1 := (ext_none hgrow).cell cb0; have HW1 := Lib.hid (HW.out.ext (ext_none hgrow)); have HX1 := Lib.hid (ext_none hgrow); have hcell1 := (ext_none hgrow).cell hcell; have hfr1 : w1.frozen? ⟨g, 6, none⟩ = false := HW1.out.blk.frozen 6; clear hown hgrow)
  go_loopw [16] (fun i wr => i = .int .i64 0 ∧ wr = w1) (fun _ _ => 0)
  case atStart => exact ⟨rfl, rfl⟩
  case round =>
    obtain ⟨rfl, rfl⟩ := hrel
    go_wp2
    go_ret
    exact ⟨rfl, ⟨_, HW1.out.set_ip _ _ ⟨_, _, rfl, by simp, fun j hj => by simp at hj⟩⟩, (KeepG.of_ext HX1.out).set _ _⟩
theorem optfor_ip (w : World) : OptFor w 42 [] (fun a => { a with ip := [] }) := by
  intro w1 b s hx hB hs hxs hn
  refine ⟨_, _, rfl, call_o_ip, fun g a w2 hw hg hE => ?_⟩
  have h0 : s.n = 0 := by have := hs.1.1; rw [hxs] at this; exact this.symm
  have hc := hB.ext hw
  obtain ⟨A, n, c, xs⟩ := s
  simp only at h0
  subst h0
  exact opt_ip0 g b a A c w2 hE (hc.cell 0)
set_option maxHeartbeats 1000000 in
set_option maxRecDepth 100000 in
theorem opt_nip0 (g b : Nat) (a : AE) (A : Option Addr) (c : Nat) (w : World) (hE : EngIs w g a) (cb0 : w.cell? ⟨b, 0, none⟩ = some (.slice A 0 c)) :
    Calls Tryz.prog 47 #[.pointer (some ⟨g, 0, none⟩), .pointer (some ⟨b, 0, none⟩)] w (OptPost g { a with nip := [] } w) := by
  obtain ⟨e, he⟩ := hE
  have hcell : w.cell? ⟨g, 7, none⟩ = some e.nip := he.blk.cell 7
  have hfr : w.frozen? ⟨g, 7, none⟩ = false := he.blk.frozen 7
  have hlt := he.blk.lt
  have HW := Lib.hid he; clear he
  obtain ⟨i0, hi, hz0, hz1, hz2⟩ := info_parts info_netp
  go_enter Tryz.func47, Tryz.ntmps47
  go_wp2_with (at_make; refine wpList_make_own _ rfl _ (.tmp 12) 56 rfl w.heap.size 60 i0 (.pointer none) 1 Tryz.underlying56 hi hz0 hz1 .i64 .i64 0 0 rfl rfl rfl (by rw [hz2]; omega) (by unfold maxLen; omega) (by simp) ?_; intro w1 hown hgrow; have cb1 := (ext_none hgrow).cell cb0; have HW1 := Lib.hid (HW.out.ext (ext_none hgrow)); have HX1 := Lib.hid (ext_none hgrow); have hcell1 := (ext_none hgrow).cell hcell; have hfr1 : w1.frozen? ⟨g, 7, none⟩ = false := HW1.out.blk.frozen 7; clear hown hgrow)
  go_loopw [16] (fun i wr => i = .int .i64 0 ∧ wr = w1) (fun _ _ => 0)
  case atStart => exact ⟨rfl, rfl⟩
  case round =>
    obtain ⟨rfl, rfl⟩ := hrel
    go_wp2
    go_ret
    exact ⟨rfl, ⟨_, HW1.out.set_nip _ _ ⟨_, _, rfl, by simp, fun j hj => by simp at hj⟩⟩, (KeepG.of_ext HX1.out).set _ _⟩
theorem optfor_nip (w : World) : OptFor w 47 [] (fun a => { a with nip := [] }) := by
  intro w1 b s hx hB hs hxs hn
  refine ⟨_, _, rfl, call_o_nip, fun g a w2 hw hg hE => ?_⟩
  have h0 : s.n = 0 := by have := hs.1.1; rw [hxs] at this; exact this.symm
  have hc := hB.ext hw
  obtain ⟨A, n, c, xs⟩ := s
  simp only at h0
  subst h0
  exact opt_nip0 g b a A c w2 hE (hc.cell 0)
theorem optfor_em (w : World) (xs : List ByteArray) (nf : List UInt8 → List UInt8) (hlen : ∀ x ∈ xs, (nf (bl x)).length ≤ 2147483647)
    (hN : ∀ x ∈ xs, ∀ w', Ext w w' → Calls Tryz.prog 49 #[.string x] w' (NormPost (nf (bl x)) w')) :
    OptFor w 48 xs (fun a => { a with em := xs.map fun x => nf (bl x) }) := by
  intro w1 b s hx hB hs hxs hn
  refine ⟨_, _, rfl, call_o_em, fun g a w2 hw hg hE => ?_⟩
  subst hxs
  exact opt_em g b a s.A s.n s.c s.xs nf w2 hE (caps_of hB hs hn hw hg) hlen (fun x hm w' hx' => hN x hm w' ((hx.tr hw).tr hx'))
theorem optfor_nem (w : World) (xs : List ByteArray) (nf : List UInt8 → List UInt8) (hlen : ∀ x ∈ xs, (nf (bl x)).length ≤ 2147483647)
    (hN : ∀ x ∈ xs, ∀ w', Ext w w' → Calls Tryz.prog 49 #[.string x] w' (NormPost (nf (bl x)) w')) :
    OptFor w 50 xs (fun a => { a with nem := xs.map fun x => nf (bl x) }) := by
  intro w1 b s hx hB hs hxs hn
  refine ⟨_, _, rfl, call_o_nem, fun g a w2 hw hg hE => ?_⟩
  subst hxs
  exact opt_nem g b a s.A s.n s.c s.xs nf w2 hE (caps_of hB hs hn hw hg) hlen (fun x hm w' hx' => hN x hm w' ((hx.tr hw).tr hx'))
theorem optfor_uri (w : World) (xs : List ByteArray) (nf : List UInt8 → List UInt8) (hlen : ∀ x ∈ xs, (nf (bl x)).length ≤ 2147483647)
    (hN : ∀ x ∈ xs, ∀ w', Ext w w' → Calls Tryz.prog 52 #[.string x] w' (NormPost (nf (bl x)) w')) :
    OptFor w 51 xs (fun a => { a with uri := xs.map fun x => nf (bl x) }) := by
  intro w1 b s hx hB hs hxs hn
  refine ⟨_, _, rfl, call_o_uri, fun g a w2 hw hg hE => ?_⟩
  subst hxs
  exact opt_uri g b a s.A s.n s.c s.xs nf w2 hE (caps_of hB hs hn hw hg) hlen (fun x hm w' hx' => hN x hm w' ((hx.tr hw).tr hx'))
theorem optfor_nuri (w : World) (xs : List ByteArray) (nf : List UInt8 → List UInt8) (hlen : ∀ x ∈ xs, (nf (bl x)).length ≤ 2147483647)
    (hN : ∀ x ∈ xs, ∀ w', Ext w w' → Calls Tryz.prog 52 #[.string x] w' (NormPost (nf (bl x)) w')) :
    OptFor w 53 xs (fun a => { a with nuri := xs.map fun x => nf (bl x) }) := by
  intro w1 b s hx hB hs hxs hn
  refine ⟨_, _, rfl, call_o_nuri, fun g a w2 hw hg hE => ?_⟩
  subst hxs
  exact opt_nuri g b a s.A s.n s.c s.xs nf w2 hE (caps_of hB hs hn hw hg) hlen (fun x hm w' hx' => hN x hm w' ((hx.tr hw).tr hx'))
theorem optfor_cn (w : World) (xs : List ByteArray) (nf : List UInt8 → List UInt8) (hlen : ∀ x ∈ xs, (nf (bl x)).length ≤ 2147483647)
    (hN : ∀ x ∈ xs, ∀ w', Ext w w' → Calls Tryz.prog 55 #[.string x] w' (NormPost (nf (bl x)) w')) :
    OptFor w 54 xs (fun a => { a with cn := xs.map fun x => nf (bl x) }) := by
  intro w1 b s hx hB hs hxs hn
  refine ⟨_, _, rfl, call_o_cn, fun g a w2 hw hg hE => ?_⟩
  subst hxs
  exact opt_cn g b a s.A s.n s.c s.xs nf w2 hE (caps_of hB hs hn hw hg) hlen (fun x hm w' hx' => hN x hm w' ((hx.tr hw).tr hx'))
theorem optfor_ncn (w : World) (xs : List ByteArray) (nf : List UInt8 → List UInt8) (hlen : ∀ x ∈ xs, (nf (bl x)).length ≤ 2147483647)
    (hN : ∀ x ∈ xs, ∀ w', Ext w w' → Calls Tryz.prog 55 #[.string x] w' (NormPost (nf (bl x)) w')) :
    OptFor w 56 xs (fun a => { a with ncn := xs.map fun x => nf (bl x) }) := by
  intro w1 b s hx hB hs hxs hn
  refine ⟨_, _, rfl, call_o_ncn, fun g a w2 hw hg hE => ?_⟩
  subst hxs
  exact opt_ncn g b a s.A s.n s.c s.xs nf w2 hE (caps_of hB hs hn hw hg) hlen (fun x hm w' hx' => hN x hm w' ((hx.tr hw).tr hx'))
theorem optfor_pr (w : World) (xs : List ByteArray) : OptFor w 57 xs (fun a => { a with pr := xs.map bl }) := by
  intro w1 b s hx hB hs hxs hn
  refine ⟨_, _, rfl, call_o_pr, fun g a w2 hw hg hE => ?_⟩
  subst hxs
  exact opt_pr g b a s.A s.n s.c s.xs w2 hE (caps_of hB hs hn hw hg)
theorem optfor_npr (w : World) (xs : List ByteArray) : OptFor w 58 xs (fun a => { a with npr := xs.map bl }) := by
  intro w1 b s hx hB hs hxs hn
  refine ⟨_, _, rfl, call_o_npr, fun g a w2 hw hg hE => ?_⟩
  subst hxs
  exact opt_npr g b a s.A s.n s.c s.xs w2 hE (caps_of hB hs hn hw hg)
theorem call_o_lit (args : Array Value) (w : World) : (callFunc 59 args).run Tryz.prog w = .ok (.enter 59 args) w := by
  unfold callFunc
  simp [go_sem, Tryz.func59, Tryz.f59]
theorem with_lit (w : World) : Calls Tryz.prog 35 #[] w (fun e w' => e = .returned (.func (.func 59) #[] #[]) ∧ w' = w) := by
  go_enter Tryz.func35, Tryz.ntmps35
  go_wp2
  go_ret
  exact ⟨rfl, rfl⟩
theorem optok_lit (w : World) : OptOK w (.func (.func 59) #[] #[]) (fun a => { a with lit := true }) :=
  ⟨_, _, rfl, call_o_lit, fun g a w2 _ _ hE => opt_lit g a w2 hE⟩
theorem call_o_ver (args : Array Value) (w : World) : (callFunc 60 args).run Tryz.prog w = .ok (.enter 60 args) w := by
  unfold callFunc
  simp [go_sem, Tryz.func60, Tryz.f60]
theorem with_ver (w : World) : Calls Tryz.prog 36 #[] w (fun e w' => e = .returned (.func (.func 60) #[] #[]) ∧ w' = w) := by
  go_enter Tryz.func36, Tryz.ntmps36
  go_wp2
  go_ret
  exact ⟨rfl, rfl⟩
theorem optok_ver (w : World) : OptOK w (.func (.func 60) #[] #[]) (fun a => { a with ver := true }) :=
  ⟨_, _, rfl, call_o_ver, fun g a w2 _ _ hE => opt_ver g a w2 hE⟩
end Go.Proofs.YtedniebpabfglaaGreatDoor
