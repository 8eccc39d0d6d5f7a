/- The walk of netip.parseIPv4Fields at dotted numbers. The walks of netip.AddrFrom4, parseIPv4, ParseAddr at dotted numbers, Zone and BitLen of such an address. The walks of Zone and BitLen of an address of four bytes. The walks of byteorder.BEPutUint64 and of As16 of an address of four bytes. The walk of As16 of an address of four bytes. The walk of net.CIDRMask for four bytes. The walks of bytealg.Equal at the prefix of an address of four bytes, and of isZeros. The walks of net.parseIP and net.ParseIP at dotted numbers. The walk of networkFor; what the net of a text is. The walk of IP.Mask at an address of four bytes among sixteen and a mask of four bytes. The walk of zzParseCIDR. -/
import Derived.Test.YtedniebpabfglaaGreatDoorSplit
import Derived.Test.YtedniebpabfglaaGreatDoorOct
import Derived.Laws.BitsAllLaws
import Derived.LaidEqlPtr
import Derived.StillTailTactics
import Derived.Test.YtedniebpabfglaaGreatDoorOpts
import Derived.Test.YtedniebpabfglaaGreatDoorLike
import Derived.Test.YtedniebpabfglaaGreatDoorUrl
import Derived.Deep.RegionWith
section
namespace Go.Proofs.YtedniebpabfglaaGreatDoor
open Go.RowKit

/-- Four cells of bytes. -/
def Bytes4 (cs : Array Value) : Prop := cs.size = 4 ∧ ∀ j, j < 4 → ∃ x : Nat, x < 256 ∧ cs[j]? = some (.int .u8 x)
theorem Bytes4.set_ {cs : Array Value} (h : Bytes4 cs) (i x : Nat) (hx : x < 256) : Bytes4 (cs.setIfInBounds i (.int .u8 x)) := by
  refine ⟨by rw [Array.size_setIfInBounds]; exact h.1, fun j hj => ?_⟩
  rw [Array.getElem?_setIfInBounds]
  by_cases he : i = j
  · subst he
    rw [if_pos rfl, if_pos (by rw [h.1]; exact hj)]
    exact ⟨x, hx, rfl⟩
  · rw [if_neg he]; exact h.2 j hj
theorem zero4 : Bytes4 #[.int .u8 0, .int .u8 0, .int .u8 0, .int .u8 0] := ⟨rfl, fun j hj => by
  match j, hj with
  | 0, _ => exact ⟨0, by omega, rfl⟩
  | 1, _ => exact ⟨0, by omega, rfl⟩
  | 2, _ => exact ⟨0, by omega, rfl⟩
  | 3, _ => exact ⟨0, by omega, rfl⟩⟩
/-- The cells hold these numbers first. -/
def CsIs (l : List Nat) (cs : Array Value) : Prop := ∀ (j x : Nat), l[j]? = some x → cs[j]? = some (.int .u8 (x : Nat))
theorem CsIs.nil (cs : Array Value) : CsIs [] cs := fun j x h => by simp at h
theorem CsIs.snoc {l : List Nat} {cs : Array Value} (h : CsIs l cs) (x i : Nat) (hi : l.length = i) (hs : i < cs.size) : CsIs (l ++ [x]) (cs.setIfInBounds i (.int .u8 x)) := fun j y hy => by
  rw [Array.getElem?_setIfInBounds]
  by_cases he : i = j
  · subst he
    rw [if_pos rfl, if_pos hs]
    rw [List.getElem?_append_right (by omega), show i - l.length = 0 by omega] at hy
    have : x = y := by simpa using hy
    rw [this]
  · rw [if_neg he]
    refine h j y ?_
    rcases Nat.lt_or_ge j l.length with hj | hj
    · rw [List.getElem?_append_left hj] at hy; exact hy
    · rw [List.getElem?_append_right hj] at hy
      obtain ⟨m, hm⟩ : ∃ m, j - l.length = m + 1 := ⟨j - l.length - 1, by omega⟩
      rw [hm] at hy
      simp at hy
def FieldsPost (l : List Nat) (g : Nat) (w0 : World) (e : Ending) (w' : World) : Prop := ∃ cs, e = .returned .nilIface ∧ Bytes4 cs ∧ CsIs l cs ∧ Blk w' g 143 cs ∧ Ext w0 w'
set_option maxHeartbeats 8000000 in
set_option maxRecDepth 100000 in
theorem parse4f_ok (s : ByteArray) (g cap : Nat) (w0 w : World) (cs0 : Array Value) (hs : s.size ≤ 2147483647) (ho : Pl.octsOk 4 (bl s) = true) (hB : Blk w g 143 cs0) (hb4 : Bytes4 cs0) (hx : Ext w0 w) (hg : w0.heap.size ≤ g) :
    Calls Tryz.prog 119 #[.string s, .int .i64 0, .int .i64 s.size, .slice (some ⟨g, 0, none⟩) 4 cap] w (FieldsPost (Pl.octsV 4 (bl s)) g w0) := by
  have HO := Lib.hid (Pl.OctSt.start ho); clear ho
  have HB := Lib.hid hB; have HB4 := Lib.hid hb4; have HX := Lib.hid hx
  clear hB hb4 hx
  go_enter Tryz.func119, Tryz.ntmps119
  go_wp2
  go_loopw [9, 10, 11, 13] (fun v ps dl i wr => ∃ (k q : Nat) (d : List UInt8) (done : List Nat) (cs : Array Value), Pl.OctV (bl s) k q d done ∧ CsIs done cs ∧ i = .int .i64 k ∧ ps = .int .i64 q ∧ v = .int .i64 (Pl.numVal d) ∧ dl = .int .i64 d.length ∧ k ≤ s.size ∧ Pl.OctSt (bl s) k q d ∧ Bytes4 cs ∧ Blk wr g 143 cs ∧ Ext w0 wr) (fun _ _ _ i _ => s.size - (intOf i).toNat)
  case atStart => exact ⟨0, 0, [], [], _, Pl.OctV.start _, CsIs.nil _, rfl, rfl, rfl, rfl, by omega, HO.out, HB4.out, HB.out, HX.out⟩
  case round =>
    obtain ⟨k, q, d, done, cs, hov, hcs, rfl, rfl, rfl, rfl, hk, hst, hb4, hB, hb⟩ := hrel
    have HOV := Lib.hid hov; have HCS := Lib.hid hcs
    clear hov hcs
    have hq := hst.pos3
    have hv := Pl.oct_le hst
    have HST := Lib.hid hst
    have HBr := Lib.hid hB; have HB4r := Lib.hid hb4
    clear hst hB hb4
    by_cases hlt : k < s.size
    · have hkl : k < (bl s).length := by rw [bl_length]; exact hlt
      have HK : Hid ((bl s)[k] = s[k]) := bl_get s k hlt
      rcases Pl.oct_chr HST.out hkl with hc | hc
      · obtain ⟨hst2, hv2, hz⟩ := Pl.oct_dig HST.out hkl hc
        have hdn := Pl.dig_num hc
        have e : (bl s)[k] = s[k] := HK.out
        rw [e] at hst2 hv2 hdn
        have hc0 : (48 : Int) ≤ (s[k].toNat : Int) := by omega
        have hc1 : (s[k].toNat : Int) ≤ 57 := by omega
        have hnv : (Pl.numVal d : Int) * 10 + (s[k].toNat : Int) - 48 = (Pl.numVal (d ++ [s[k]]) : Int) := by rw [Pl.numVal_snoc]; omega
        have hdl : d.length ≤ s.size := by
          obtain ⟨p, ep⟩ := HST.out.pre
          have := congrArg List.length ep
          rw [List.length_take, List.length_append, bl_length] at this
          omega
        have HS2 := Lib.hid hst2; have HNV := Lib.hid hnv
        have HO2 : Hid (Pl.OctV (bl s) (k + 1) q (d ++ [s[k]]) done) := by have := Pl.octv_dig HOV.out hkl; rw [e] at this; exact this
        have hv3 : ((Pl.numVal d : Int) * 10 + (s[k].toNat : Int) - 48) ≤ 255 := by omega
        have hv4 : (0 : Int) ≤ (Pl.numVal d : Int) * 10 + (s[k].toNat : Int) - 48 := by omega
        by_cases hd1 : d.length = 1
        · have hnz : ((Pl.numVal d : Int) == 0) = false := by
            rw [beq_eq_false_iff_ne]
            intro h0
            exact hz ⟨hd1, by omega⟩
          have hd2 : ((d.length : Int) == 1) = true := by rw [hd1]; rfl
          clear hst2 hz hnv hc hdn e hd1
          go_wp2
          go_roundw
          case rel => exact ⟨k + 1, q, d ++ [s[k]], done, cs, HO2.out, HCS.out, by go_num, rfl, congrArg (Value.int .i64) HNV.out, by simp, by omega, HS2.out, HB4r.out, HBr.out, hb⟩
          case measure => simp [intOf]; omega
        · have hd2 : ((d.length : Int) == 1) = false := by rw [beq_eq_false_iff_ne]; omega
          clear hst2 hz hnv hc hdn e hd1
          go_wp2
          go_roundw
          case rel => exact ⟨k + 1, q, d ++ [s[k]], done, cs, HO2.out, HCS.out, by go_num, rfl, congrArg (Value.int .i64) HNV.out, by simp, by omega, HS2.out, HB4r.out, HBr.out, hb⟩
          case measure => simp [intOf]; omega
      · obtain ⟨hq3, hst2, hk1, hk0, hpd⟩ := Pl.oct_dot HST.out hkl hc
        rw [bl_length] at hk1
        have hpd2 : ((s[k - 1].toNat : Int) == 46) = false := by
          have h1 := hpd (by rw [bl_length]; omega)
          rw [bl_get s (k - 1) (by omega)] at h1
          have := Pl.dig_num h1
          rw [beq_eq_false_iff_ne]; omega
        have e : (bl s)[k] = s[k] := HK.out
        rw [e] at hc
        have hc0 : ¬ (48 : Int) ≤ (s[k].toNat : Int) := by rw [hc]; decide
        have hc1 : ((s[k].toNat : Int) == 46) = true := by rw [hc]; rfl
        have hk2 : ((k : Int) == 0) = false := by rw [beq_eq_false_iff_ne]; omega
        have hk3 : ((k : Int) == (s.size : Int) - 1) = false := by rw [beq_eq_false_iff_ne]; omega
        have hq4 : ((q : Int) == 3) = false := by rw [beq_eq_false_iff_ne]; omega
        obtain ⟨xx, hxx, hcx⟩ := HB4r.out.2 q (by omega)
        have c0 : wr.cell? ⟨g, q, none⟩ = some (.int .u8 xx) := by rw [HBr.out.cell q]; exact hcx
        have f0 := HBr.out.frozen q
        have HS2 := Lib.hid hst2
        have HO2 := Lib.hid (Pl.octv_dot HOV.out HST.out hkl (by rw [e]; exact hc))
        have HC2 := Lib.hid (HCS.out.snoc (Pl.numVal d) q HOV.out.len (by rw [HB4r.out.1]; omega))
        clear hst2 hc e hpd hcx
        go_wp2
        go_roundw
        case rel => exact ⟨k + 1, q + 1, [], done ++ [Pl.numVal d], cs.setIfInBounds q (.int .u8 (Pl.numVal d : Nat)), HO2.out, HC2.out, by go_num, by go_num, rfl, rfl, by omega, HS2.out, HB4r.out.set_ q _ (by omega), HBr.out.set_ q _, Below.setCell hb hg _⟩
        case measure => simp [intOf]; omega
    · obtain rfl : k = s.size := by omega
      obtain rfl : q = 3 := Pl.oct_end (by have := HST.out; rw [← bl_length] at this; exact this)
      obtain ⟨xx, hxx, hcx⟩ := HB4r.out.2 3 (by omega)
      have c0 : wr.cell? ⟨g, 3, none⟩ = some (.int .u8 xx) := by rw [HBr.out.cell 3]; exact hcx
      have f0 := HBr.out.frozen 3
      have HE : Hid (CsIs (Pl.octsV 4 (bl s)) (cs.setIfInBounds 3 (.int .u8 (Pl.numVal d : Nat)))) := by
        unfold Hid
        have e1 := HOV.out; have e2 := HST.out
        rw [← bl_length] at e1 e2
        rw [Pl.octv_end e1 e2]
        exact HCS.out.snoc (Pl.numVal d) 3 e1.len (by rw [HB4r.out.1]; omega)
      clear hcx
      go_wp2
      go_ret
      exact ⟨cs.setIfInBounds 3 (.int .u8 (Pl.numVal d : Nat)), rfl, HB4r.out.set_ 3 _ (by omega), HE.out, HBr.out.set_ 3 _, Below.setCell hb hg _⟩
end Go.Proofs.YtedniebpabfglaaGreatDoor
end
section
namespace Go.Proofs.YtedniebpabfglaaGreatDoor
open Go.RowKit

/-- What lies in the variables of netip and net: nothing, the mark of four bytes, the prefix of an address of four bytes among sixteen. -/
structure IpTab (zb zo pb po pc : Nat) (w : World) : Prop where
  z0 : w.cell? ⟨1, 0, none⟩ = some (.pointer none)
  z4 : w.cell? ⟨2, 0, none⟩ = some (.pointer (some ⟨zb, zo, none⟩))
  zd0 : w.cell? ⟨zb, zo, none⟩ = some (.bool false)
  zd1 : w.cell? ⟨zb, zo + 1, none⟩ = some (.string ⟨#[]⟩)
  pre : w.cell? ⟨3, 0, none⟩ = some (.slice (some ⟨pb, po, none⟩) 12 pc)
  byte : ∀ j, j < 12 → w.cell? ⟨pb, po + j, none⟩ = some (.int .u8 (if j < 10 then 0 else 255))
theorem IpTab.ext {zb zo pb po pc : Nat} {w w' : World} (h : IpTab zb zo pb po pc w) (hx : Ext w w') : IpTab zb zo pb po pc w' :=
  ⟨hx.cell h.z0, hx.cell h.z4, hx.cell h.zd0, hx.cell h.zd1, hx.cell h.pre, fun j hj => hx.cell (h.byte j hj)⟩
theorem or_lo (k y i : Nat) (h : y < 2 ^ i) : k * 2 ^ i ||| y = k * 2 ^ i + y := by
  rw [← Nat.shiftLeft_eq, Nat.shiftLeft_add_eq_or_of_lt h]
theorem or_four (a b c d : Nat) (ha : a < 256) (hb : b < 256) (hc : c < 256) (hd : d < 256) :
    bits BinOp.or IntKind.u64 (bits BinOp.or IntKind.u64 (bits BinOp.or IntKind.u64 (bits BinOp.or IntKind.u64 281470681743360 ((a : Int) * 16777216)) ((b : Int) * 65536)) ((c : Int) * 256)) (d : Int) = ((281470681743360 + (a * 16777216 + b * 65536 + c * 256 + d) : Nat) : Int) := by
  have e1 : ((a : Int) * 16777216) = ((a * 16777216 : Nat) : Int) := by omega
  have e2 : ((b : Int) * 65536) = ((b * 65536 : Nat) : Int) := by omega
  have e3 : ((c : Int) * 256) = ((c * 256 : Nat) : Int) := by omega
  have e0 : (281470681743360 : Int) = ((65535 * 2 ^ 32 : Nat) : Int) := by decide
  have g1 := or_lo 65535 (a * 16777216) 32 (by omega)
  have g2 := or_lo (65535 * 256 + a) (b * 65536) 24 (by omega)
  have g3 := or_lo ((65535 * 256 + a) * 256 + b) (c * 256) 16 (by omega)
  have g4 := or_lo (((65535 * 256 + a) * 256 + b) * 256 + c) d 8 (by omega)
  rw [e0, e1, e2, e3, u64_or_nat _ _ (by omega) (by omega), g1]
  rw [show 65535 * 2 ^ 32 + a * 16777216 = (65535 * 256 + a) * 2 ^ 24 by omega, u64_or_nat _ _ (by omega) (by omega), g2]
  rw [show (65535 * 256 + a) * 2 ^ 24 + b * 65536 = ((65535 * 256 + a) * 256 + b) * 2 ^ 16 by omega, u64_or_nat _ _ (by omega) (by omega), g3]
  rw [show ((65535 * 256 + a) * 256 + b) * 2 ^ 16 + c * 256 = (((65535 * 256 + a) * 256 + b) * 256 + c) * 2 ^ 8 by omega, u64_or_nat _ _ (by omega) (by omega), g4]
  congr 1
  omega
/-- An address of four bytes. -/
abbrev addr4 (zb zo v : Nat) : Value := .agg #[.int .u64 0, .int .u64 (v : Nat), .pointer (some ⟨zb, zo, none⟩)]
set_option maxHeartbeats 4000000 in
set_option maxRecDepth 100000 in
theorem AddrFrom4_any (zb zo pb po pc : Nat) (a b c d : Nat) (w : World) (ha : a < 256) (hb : b < 256) (hc : c < 256) (hd : d < 256) (ht : IpTab zb zo pb po pc w) :
    Calls Tryz.prog 120 #[.agg #[.int .u8 a, .int .u8 b, .int .u8 c, .int .u8 d]] w (fun e w' => e = .returned (addr4 zb zo (281470681743360 + (a * 16777216 + b * 65536 + c * 256 + d))) ∧ Ext w w') := by
  have hz4 := (ht.ext (((Ext.refl w).alloc (.cells #[.int .u8 a, .int .u8 b, .int .u8 c, .int .u8 d] 143)).alloc (.cells #[.int .u64 0, .int .u64 0, .pointer none] 77))).z4
  go_enter Tryz.func120, Tryz.ntmps120
  go_wp2_with fail
  rw [or_four a b c d ha hb hc hd]
  obtain ⟨v, hv⟩ : ∃ v, v = 281470681743360 + (a * 16777216 + b * 65536 + c * 256 + d) := ⟨_, rfl⟩
  have hv4 : 281470681743360 ≤ v ∧ v < 281474976710656 := by omega
  rw [← hv]
  have HX : Hid (Ext w ((w.alloc (.cells #[.int .u8 a, .int .u8 b, .int .u8 c, .int .u8 d] 143)).alloc (.cells #[.int .u64 0, .int .u64 (v : Nat), .pointer (some ⟨zb, zo, none⟩)] 77))) := ((Ext.refl w).alloc _).alloc _
  refine bodyPost_ret (v := addr4 zb zo v) (by simp [results, Tryz.results120, go_sem]) rfl ⟨by rw [hv], HX.out⟩
theorem Bytes4.form {cs : Array Value} (h : Bytes4 cs) : ∃ a b c d : Nat, a < 256 ∧ b < 256 ∧ c < 256 ∧ d < 256 ∧ cs = #[.int .u8 a, .int .u8 b, .int .u8 c, .int .u8 d] := by
  obtain ⟨hs, h⟩ := h
  obtain ⟨a, ha, e0⟩ := h 0 (by omega)
  obtain ⟨b, hb, e1⟩ := h 1 (by omega)
  obtain ⟨c, hc, e2⟩ := h 2 (by omega)
  obtain ⟨d, hd, e3⟩ := h 3 (by omega)
  refine ⟨a, b, c, d, ha, hb, hc, hd, ?_⟩
  apply Array.ext_getElem?
  intro i
  match i with
  | 0 => exact e0
  | 1 => exact e1
  | 2 => exact e2
  | 3 => exact e3
  | n + 4 => rw [Array.getElem?_eq_none (by omega)]; rfl
theorem cs_form {l : List Nat} {cs : Array Value} (hl : l.length = 4) (h : CsIs l cs) (hb : Bytes4 cs) : ∃ a b c d : Nat, a < 256 ∧ b < 256 ∧ c < 256 ∧ d < 256 ∧ l = [a, b, c, d] ∧ cs = #[.int .u8 a, .int .u8 b, .int .u8 c, .int .u8 d] := by
  obtain ⟨a, b, c, d, ha, hb2, hc, hd, rfl⟩ := hb.form
  match l, hl, h with
  | [a', b', c', d'], _, h =>
    have e0 := h 0 a' rfl
    have e1 := h 1 b' rfl
    have e2 := h 2 c' rfl
    have e3 := h 3 d' rfl
    simp at e0 e1 e2 e3
    exact ⟨a, b, c, d, ha, hb2, hc, hd, by rw [show a' = a by omega, show b' = b by omega, show c' = c by omega, show d' = d by omega], rfl⟩
/-- The number of an address of four bytes. -/
def adr (l : List Nat) : Nat := 281470681743360 + (l.getD 0 0 * 16777216 + l.getD 1 0 * 65536 + l.getD 2 0 * 256 + l.getD 3 0)
def Addr4Post (zb zo : Nat) (l : List Nat) (w : World) (e : Ending) (w' : World) : Prop := ((∃ a b c d : Nat, a < 256 ∧ b < 256 ∧ c < 256 ∧ d < 256 ∧ l = [a, b, c, d]) ∧ e = .returned (.tuple #[addr4 zb zo (adr l), .nilIface])) ∧ Ext w w'
set_option maxHeartbeats 4000000 in
set_option maxRecDepth 100000 in
theorem parse4_ok (zb zo pb po pc : Nat) (s : ByteArray) (w : World) (hs : s.size ≤ 2147483647) (ho : Pl.octsOk 4 (bl s) = true) (ht : IpTab zb zo pb po pc w) :
    Calls Tryz.prog 94 #[.string s] w (Addr4Post zb zo (Pl.octsV 4 (bl s)) w) := by
  have HT := Lib.hid ht
  have HX : Hid (Ext w (w.alloc (.cells #[.int .u64 0, .int .u64 0, .pointer none] 77))) := (Ext.refl w).alloc _
  have HBK : Hid (Blk (w.alloc (.cells #[.int .u64 0, .int .u64 0, .pointer none] 77)) w.heap.size 77 #[.int .u64 0, .int .u64 0, .pointer none]) := Blk.new _ _ _
  have HF : Hid (∀ w1 B, Ext w w1 → w1.heap.size = B → Calls Tryz.prog 119 #[.string s, .int .i64 0, .int .i64 s.size, .slice (some ⟨B, 0, none⟩) 4 4] (w1.alloc (.cells #[.int .u8 0, .int .u8 0, .int .u8 0, .int .u8 0] 143)) (FieldsPost (Pl.octsV 4 (bl s)) B w1)) := fun w1 B hx hB => by
    subst hB
    exact parse4f_ok s w1.heap.size 4 w1 _ _ hs ho (Blk.new _ _ _) zero4 ((Ext.refl w1).alloc _) (Nat.le_refl _)
  clear ht ho
  go_enter Tryz.func94, Tryz.ntmps94
  go_wp2_with fail
  refine (HF.out _ (w.heap.size + 1) HX.out (by simp)).mono ?_
  rintro e w2 ⟨cs, rfl, hb4, hcs, hB, hb2⟩
  have HX2 := Lib.hid (HX.out.tr hb2)
  have HB2 := Lib.hid (HBK.out.ext hb2)
  clear hb2
  obtain ⟨a, b, c, d, ha, hb, hc, hd, hl, rfl⟩ := cs_form (Pl.octsV_len 4 _) hcs hb4
  have HL := Lib.hid hl
  clear hl hcs
  have q0 := hB.cell 0
  have q1 := hB.cell 1
  have q2 := hB.cell 2
  have q3 := hB.cell 3
  clear hB hb4
  go_wp2_with fail
  refine (AddrFrom4_any zb zo pb po pc a b c d _ ha hb hc hd (HT.out.ext HX2.out)).mono ?_
  rintro e w3 ⟨rfl, hb3⟩
  obtain ⟨v, hv⟩ : ∃ v, v = 281470681743360 + (a * 16777216 + b * 65536 + c * 256 + d) := ⟨_, rfl⟩
  have hva : adr (Pl.octsV 4 (bl s)) = v := by rw [HL.out, hv]; rfl
  have HVA := Lib.hid hva; clear hva
  rw [← hv]
  clear hv
  have HX3 := Lib.hid (HX2.out.tr hb3)
  have HB3 := Lib.hid (HB2.out.ext hb3)
  clear hb3 q0 q1 q2 q3
  have q0 := HB3.out.cell 0
  have q1 := HB3.out.cell 1
  have q2 := HB3.out.cell 2
  have f0 := HB3.out.frozen 0
  have f1 := HB3.out.frozen 1
  have f2 := HB3.out.frozen 2
  have HE : Hid (Blk (((w3.setCell ⟨w.heap.size, 0, none⟩ (.int .u64 0)).setCell ⟨w.heap.size, 1, none⟩ (.int .u64 (v : Nat))).setCell ⟨w.heap.size, 2, none⟩ (.pointer (some ⟨zb, zo, none⟩))) w.heap.size 77 #[.int .u64 0, .int .u64 (v : Nat), .pointer (some ⟨zb, zo, none⟩)]) := ((HB3.out.set_ 0 _).set_ 1 _).set_ 2 _
  have HXE : Hid (Ext w (((w3.setCell ⟨w.heap.size, 0, none⟩ (.int .u64 0)).setCell ⟨w.heap.size, 1, none⟩ (.int .u64 (v : Nat))).setCell ⟨w.heap.size, 2, none⟩ (.pointer (some ⟨zb, zo, none⟩)))) :=
    Below.setCell (Below.setCell (Below.setCell HX3.out (Nat.le_refl _) _) (Nat.le_refl _) _) (Nat.le_refl _) _
  go_wp2
  have r0 := HE.out.cell 0
  have r1 := HE.out.cell 1
  have r2 := HE.out.cell 2
  generalize (((w3.setCell ⟨w.heap.size, 0, none⟩ (.int .u64 0)).setCell ⟨w.heap.size, 1, none⟩ (.int .u64 (v : Nat))).setCell ⟨w.heap.size, 2, none⟩ (.pointer (some ⟨zb, zo, none⟩))) = wE at HXE r0 r1 r2 ⊢
  refine bodyPost_ret (v := .tuple #[addr4 zb zo v, .nilIface]) (by simp [results, Tryz.results94, go_sem, r0, r1, r2]) rfl ⟨⟨⟨a, b, c, d, ha, hb, hc, hd, HL.out⟩, by rw [HVA.out]⟩, HXE.out⟩
set_option maxHeartbeats 4000000 in
set_option maxRecDepth 100000 in
theorem ParseAddr_ok (zb zo pb po pc : Nat) (s : ByteArray) (w : World) (hs : s.size ≤ 2147483647) (ho : Pl.octsOk 4 (bl s) = true) (ht : IpTab zb zo pb po pc w) :
    Calls Tryz.prog 71 #[.string s] w (Addr4Post zb zo (Pl.octsV 4 (bl s)) w) := by
  have HCH : Hid (∀ j (h : j < s.size), Pl.isDig s[j] = true ∨ s[j] = 46) := fun j h => by
    have := Pl.octs_chr 4 _ (by omega) ho (bl s)[j] (List.getElem_mem (by rw [bl_length]; exact h))
    rw [bl_get s j h] at this
    exact this
  have HDOT : Hid (∃ j, ∃ h : j < s.size, s[j] = 46) := by
    obtain ⟨j, hj, e⟩ := List.mem_iff_getElem.1 (Pl.octs_dot ho)
    rw [bl_length] at hj
    exact ⟨j, hj, by rw [← bl_get s j hj]; exact e⟩
  have HH : Hid (∀ w', Ext w w' → Calls Tryz.prog 94 #[.string s] w' (Addr4Post zb zo (Pl.octsV 4 (bl s)) w')) := fun w' hx => parse4_ok zb zo pb po pc s w' hs ho (ht.ext hx)
  clear ho ht
  have HX : Hid (Ext w (w.alloc (.cells #[.int .u64 0, .int .u64 0, .pointer none] 77))) := (Ext.refl w).alloc _
  have HBK : Hid (Blk (w.alloc (.cells #[.int .u64 0, .int .u64 0, .pointer none] 77)) w.heap.size 77 #[.int .u64 0, .int .u64 0, .pointer none]) := Blk.new _ _ _
  go_enter Tryz.func71, Tryz.ntmps71
  go_wp2
  generalize w.alloc (.cells #[.int .u64 0, .int .u64 0, .pointer none] 77) = w1 at HX HBK ⊢
  generalize hB : w.heap.size = B at HBK ⊢
  go_loopw [4, 14, 20, 26] (fun i _ _ _ wr => ∃ j : Nat, i = .int .i64 j ∧ j ≤ s.size ∧ (∀ i, ∀ h : i < s.size, i < j → s[i] ≠ 46) ∧ wr = w1) (fun i _ _ _ _ => s.size - (intOf i).toNat)
  case atStart => exact ⟨0, rfl, by omega, fun i _ h => by omega, rfl⟩
  case round =>
    obtain ⟨j, rfl, hj, hno, rfl⟩ := hrel
    have HNO := Lib.hid hno; clear hno
    by_cases hlt : j < s.size
    · rcases HCH.out j hlt with hd | hc
      · have hdn := Pl.dig_num hd
        have e46 : (((s[j]).toNat : Int) == 46) = false := by rw [beq_eq_false_iff_ne]; omega
        have e58 : (((s[j]).toNat : Int) == 58) = false := by rw [beq_eq_false_iff_ne]; omega
        have e37 : (((s[j]).toNat : Int) == 37) = false := by rw [beq_eq_false_iff_ne]; omega
        have HN2 : Hid (∀ i, ∀ h : i < s.size, i < j + 1 → s[i] ≠ 46) := fun i h hi => by
          rcases Nat.lt_or_ge i j with h2 | h2
          · exact HNO.out i h h2
          · obtain rfl : i = j := by omega
            exact Pl.dig_ne hd
        clear hdn hd
        go_wp2
        go_roundw
        case rel => first | exact ⟨j + 1, by go_num, by omega, HN2.out, rfl⟩ | exact ⟨j + 1, by go_num, by omega, HN2.out, trivial⟩
        case measure => simp [intOf]; omega
      · have e46 : (((s[j]).toNat : Int) == 46) = true := by rw [hc]; rfl
        clear hc
        go_wp2_with fail
        refine (HH.out _ HX.out).mono ?_
        rintro e w2 ⟨⟨hl4, rfl⟩, hb2⟩
        generalize hva : adr (Pl.octsV 4 (bl s)) = v
        have HX2 := Lib.hid (HX.out.tr hb2)
        have HB2 := Lib.hid (HBK.out.ext hb2)
        clear hb2
        have q0 := HB2.out.cell 0
        have q1 := HB2.out.cell 1
        have q2 := HB2.out.cell 2
        have f0 := HB2.out.frozen 0
        have f1 := HB2.out.frozen 1
        have f2 := HB2.out.frozen 2
        have HE2 : Hid (Blk (((w2.setCell ⟨B, 0, none⟩ (.int .u64 0)).setCell ⟨B, 1, none⟩ (.int .u64 (v : Nat))).setCell ⟨B, 2, none⟩ (.pointer (some ⟨zb, zo, none⟩))) B 77 #[.int .u64 0, .int .u64 (v : Nat), .pointer (some ⟨zb, zo, none⟩)]) := ((HB2.out.set_ 0 _).set_ 1 _).set_ 2 _
        have HXE : Hid (Ext w (((w2.setCell ⟨B, 0, none⟩ (.int .u64 0)).setCell ⟨B, 1, none⟩ (.int .u64 (v : Nat))).setCell ⟨B, 2, none⟩ (.pointer (some ⟨zb, zo, none⟩)))) :=
          Below.setCell (Below.setCell (Below.setCell HX2.out (by rw [hB]; exact Nat.le_refl _) _) (by rw [hB]; exact Nat.le_refl _) _) (by rw [hB]; exact Nat.le_refl _) _
        go_wp2
        have r0 := HE2.out.cell 0
        have r1 := HE2.out.cell 1
        have r2 := HE2.out.cell 2
        generalize (((w2.setCell ⟨B, 0, none⟩ (.int .u64 0)).setCell ⟨B, 1, none⟩ (.int .u64 (v : Nat))).setCell ⟨B, 2, none⟩ (.pointer (some ⟨zb, zo, none⟩))) = wE at HXE r0 r1 r2 ⊢
        refine bodyPost_ret (v := .tuple #[addr4 zb zo v, .nilIface]) (by simp [results, Tryz.results71, go_sem, r0, r1, r2]) rfl ⟨⟨hl4, by rw [hva]⟩, HXE.out⟩
    · exfalso
      obtain ⟨i, hi, e⟩ := HDOT.out
      exact HNO.out i hi (by omega) e
end Go.Proofs.YtedniebpabfglaaGreatDoor
end
section
namespace Go.Proofs.YtedniebpabfglaaGreatDoor
open Go.RowKit

theorem eq_ptr_none (a : Addr) (w : World) : (Op.equalIn 9999 73 (.pointer (some a)) (.pointer none)).run Tryz.prog w = .ok false w := by
  have h : ∀ d : Nat, (Op.equalIn (d + 1) 73 (.pointer (some a)) (.pointer none)).run Tryz.prog w = .ok false w := fun d => by
    simp [Op.equalIn, run_underlying Tryz.underlying73]
  exact h 9998
theorem field_run (w : World) : (Instr.field 119 (.agg #[.bool false, .string ⟨#[]⟩]) 1).run Tryz.prog w = .ok (.string ⟨#[]⟩) w := by
  first
    | kernel_rfl
    | (simp [Instr.field, run_underlying Tryz.underlying119, go_sem])
theorem detail_info : (Tryz.prog.info? 119).isSome = true := by kernel_rfl
theorem eq_ptr_same (a : Addr) (w : World) : (Op.equalIn 9999 73 (.pointer (some a)) (.pointer (some a))).run Tryz.prog w = .ok true w := by
  obtain ⟨j, hj⟩ := Option.isSome_iff_exists.1 detail_info
  have h : ∀ d : Nat, (Op.equalIn (d + 1) 73 (.pointer (some a)) (.pointer (some a))).run Tryz.prog w = .ok true w := fun d => by
    simp [Op.equalIn, run_underlying Tryz.underlying73, sizeOf, typeInfo, hj, run_sameAddr_same]
  exact h 9998
set_option maxHeartbeats 4000000 in
set_option maxRecDepth 100000 in
theorem Value_4 (zb zo pb po pc : Nat) (w : World) (ht : IpTab zb zo pb po pc w) :
    Calls Tryz.prog 96 #[.agg #[.pointer (some ⟨zb, zo, none⟩)]] w (fun e w' => e = .returned (.agg #[.bool false, .string ⟨#[]⟩]) ∧ Ext w w') := by
  have HX : Hid (Ext w ((w.alloc (.cells #[.pointer (some ⟨zb, zo, none⟩)] 75)).alloc (.cells #[.bool false, .string ⟨#[]⟩] 119))) := ((Ext.refl w).alloc _).alloc _
  have hd0 := (ht.ext HX.out).zd0
  have hd1 := (ht.ext HX.out).zd1
  go_enter Tryz.func96, Tryz.ntmps96
  go_wp2
  refine bodyPost_ret (v := .agg #[.bool false, .string ⟨#[]⟩]) (by simp [results, Tryz.results96, go_sem]) rfl ⟨rfl, HX.out⟩
set_option maxHeartbeats 4000000 in
set_option maxRecDepth 100000 in
theorem Zone_4 (zb zo pb po pc v : Nat) (w : World) (ht : IpTab zb zo pb po pc w) :
    Calls Tryz.prog 72 #[addr4 zb zo v] w (fun e w' => e = .returned (.string ⟨#[]⟩) ∧ Ext w w') := by
  have HX : Hid (Ext w (w.alloc (.cells #[.int .u64 0, .int .u64 (v : Nat), .pointer (some ⟨zb, zo, none⟩)] 77))) := (Ext.refl w).alloc _
  have hz0 := (ht.ext HX.out).z0
  have he0 := eq_ptr_none ⟨zb, zo, none⟩ (w.alloc (.cells #[.int .u64 0, .int .u64 (v : Nat), .pointer (some ⟨zb, zo, none⟩)] 77))
  have he1 := eq_ptr_same ⟨zb, zo, none⟩ (w.alloc (.cells #[.int .u64 0, .int .u64 (v : Nat), .pointer (some ⟨zb, zo, none⟩)] 77))
  have HT := Lib.hid ht
  go_enter Tryz.func72, Tryz.ntmps72
  go_wp2_with fail
  refine (Value_4 zb zo pb po pc _ (HT.out.ext HX.out)).mono ?_
  rintro e w2 ⟨rfl, hb2⟩
  have hf := field_run w2
  go_wp2
  go_ret
  exact ⟨rfl, HX.out.tr hb2⟩
set_option maxHeartbeats 4000000 in
set_option maxRecDepth 100000 in
theorem BitLen_4 (zb zo pb po pc v : Nat) (w : World) (ht : IpTab zb zo pb po pc w) :
    Calls Tryz.prog 73 #[addr4 zb zo v] w (fun e w' => e = .returned (.int .i64 32) ∧ Ext w w') := by
  have HX : Hid (Ext w (w.alloc (.cells #[.int .u64 0, .int .u64 (v : Nat), .pointer (some ⟨zb, zo, none⟩)] 77))) := (Ext.refl w).alloc _
  have hz0 := (ht.ext HX.out).z0
  have he0 := eq_ptr_none ⟨zb, zo, none⟩ (w.alloc (.cells #[.int .u64 0, .int .u64 (v : Nat), .pointer (some ⟨zb, zo, none⟩)] 77))
  have he1 := eq_ptr_same ⟨zb, zo, none⟩ (w.alloc (.cells #[.int .u64 0, .int .u64 (v : Nat), .pointer (some ⟨zb, zo, none⟩)] 77))
  have hz4 := (ht.ext HX.out).z4
  go_enter Tryz.func73, Tryz.ntmps73
  go_wp2
  refine bodyPost_ret (v := .int .i64 32) (by simp [results, Tryz.results73, go_sem]) rfl ⟨rfl, HX.out⟩
end Go.Proofs.YtedniebpabfglaaGreatDoor
end
section
namespace Go.Proofs.YtedniebpabfglaaGreatDoor
open Go.RowKit

set_option maxHeartbeats 8000000 in
set_option maxRecDepth 100000 in
theorem BEPut_lo (g c v a b d q : Nat) (x0 x1 x2 x3 x4 x5 x6 x7 x8 x9 x10 x11 x12 x13 x14 x15 : Value) (w0 w : World) (hv : v = 281470681743360 + (a * 16777216 + b * 65536 + d * 256 + q)) (ha : a < 256) (hb : b < 256) (hd : d < 256) (hq : q < 256) (hB : Blk w g 84 #[x0, x1, x2, x3, x4, x5, x6, x7, x8, x9, x10, x11, x12, x13, x14, x15]) (hx : Ext w0 w) (hg : w0.heap.size ≤ g) :
    Calls Tryz.prog 97 #[.slice (some ⟨g, 8, none⟩) 8 c, .int .u64 v] w (fun e w' => e = .returned (.tuple #[]) ∧ Blk w' g 84 #[x0, x1, x2, x3, x4, x5, x6, x7, .int .u8 0, .int .u8 0, .int .u8 255, .int .u8 255, .int .u8 a, .int .u8 b, .int .u8 d, .int .u8 q] ∧ Ext w0 w') := by
  have HB := Lib.hid hB
  have c0 := hB.cell 8
  have f0 := hB.frozen 8
  have c1 := hB.cell 9
  have f1 := hB.frozen 9
  have c2 := hB.cell 10
  have f2 := hB.frozen 10
  have c3 := hB.cell 11
  have f3 := hB.frozen 11
  have c4 := hB.cell 12
  have f4 := hB.frozen 12
  have c5 := hB.cell 13
  have f5 := hB.frozen 13
  have c6 := hB.cell 14
  have f6 := hB.frozen 14
  have c7 := hB.cell 15
  have f7 := hB.frozen 15
  clear hB
  have hv2 : 281470681743360 ≤ v ∧ v < 281474976710656 := by omega
  have HVE := Lib.hid hv; have HA := Lib.hid ha; have HBB := Lib.hid hb; have HD := Lib.hid hd; have HQ := Lib.hid hq
  clear hv ha hb hd hq
  go_enter Tryz.func97, Tryz.ntmps97
  go_wp2
  have hv := HVE.out; have ha := HA.out; have hb := HBB.out; have hd := HD.out; have hq := HQ.out
  have e0 : (v : Int) / 72057594037927936 = 0 := by omega
  have e1 : (v : Int) / 281474976710656 = 0 := by omega
  have e2 : (v : Int) / 1099511627776 = 255 := by omega
  have e3 : (v : Int) / 4294967296 % 256 = 255 := by omega
  have e4 : (v : Int) / 16777216 % 256 = (a : Int) := by omega
  have e5 : (v : Int) / 65536 % 256 = (b : Int) := by omega
  have e6 : (v : Int) / 256 % 256 = (d : Int) := by omega
  have e7 : (v : Int) % 256 = (q : Int) := by omega
  rw [e0, e1, e2, e3, e4, e5, e6, e7]
  go_end0
  have B0 : Hid (Blk (w.setCell ⟨g, 8, none⟩ (.int .u8 0)) g 84 #[x0, x1, x2, x3, x4, x5, x6, x7, .int .u8 0, x9, x10, x11, x12, x13, x14, x15]) := HB.out.set_ 8 _
  have X0 : Hid (Ext w0 (w.setCell ⟨g, 8, none⟩ (.int .u8 0))) := Below.setCell hx hg _
  have B1 : Hid (Blk ((w.setCell ⟨g, 8, none⟩ (.int .u8 0)).setCell ⟨g, 9, none⟩ (.int .u8 0)) g 84 #[x0, x1, x2, x3, x4, x5, x6, x7, .int .u8 0, .int .u8 0, x10, x11, x12, x13, x14, x15]) := B0.out.set_ 9 _
  have X1 : Hid (Ext w0 ((w.setCell ⟨g, 8, none⟩ (.int .u8 0)).setCell ⟨g, 9, none⟩ (.int .u8 0))) := Below.setCell X0.out hg _
  have B2 : Hid (Blk (((w.setCell ⟨g, 8, none⟩ (.int .u8 0)).setCell ⟨g, 9, none⟩ (.int .u8 0)).setCell ⟨g, 10, none⟩ (.int .u8 255)) g 84 #[x0, x1, x2, x3, x4, x5, x6, x7, .int .u8 0, .int .u8 0, .int .u8 255, x11, x12, x13, x14, x15]) := B1.out.set_ 10 _
  have X2 : Hid (Ext w0 (((w.setCell ⟨g, 8, none⟩ (.int .u8 0)).setCell ⟨g, 9, none⟩ (.int .u8 0)).setCell ⟨g, 10, none⟩ (.int .u8 255))) := Below.setCell X1.out hg _
  have B3 : Hid (Blk ((((w.setCell ⟨g, 8, none⟩ (.int .u8 0)).setCell ⟨g, 9, none⟩ (.int .u8 0)).setCell ⟨g, 10, none⟩ (.int .u8 255)).setCell ⟨g, 11, none⟩ (.int .u8 255)) g 84 #[x0, x1, x2, x3, x4, x5, x6, x7, .int .u8 0, .int .u8 0, .int .u8 255, .int .u8 255, x12, x13, x14, x15]) := B2.out.set_ 11 _
  have X3 : Hid (Ext w0 ((((w.setCell ⟨g, 8, none⟩ (.int .u8 0)).setCell ⟨g, 9, none⟩ (.int .u8 0)).setCell ⟨g, 10, none⟩ (.int .u8 255)).setCell ⟨g, 11, none⟩ (.int .u8 255))) := Below.setCell X2.out hg _
  have B4 : Hid (Blk (((((w.setCell ⟨g, 8, none⟩ (.int .u8 0)).setCell ⟨g, 9, none⟩ (.int .u8 0)).setCell ⟨g, 10, none⟩ (.int .u8 255)).setCell ⟨g, 11, none⟩ (.int .u8 255)).setCell ⟨g, 12, none⟩ (.int .u8 a)) g 84 #[x0, x1, x2, x3, x4, x5, x6, x7, .int .u8 0, .int .u8 0, .int .u8 255, .int .u8 255, .int .u8 a, x13, x14, x15]) := B3.out.set_ 12 _
  have X4 : Hid (Ext w0 (((((w.setCell ⟨g, 8, none⟩ (.int .u8 0)).setCell ⟨g, 9, none⟩ (.int .u8 0)).setCell ⟨g, 10, none⟩ (.int .u8 255)).setCell ⟨g, 11, none⟩ (.int .u8 255)).setCell ⟨g, 12, none⟩ (.int .u8 a))) := Below.setCell X3.out hg _
  have B5 : Hid (Blk ((((((w.setCell ⟨g, 8, none⟩ (.int .u8 0)).setCell ⟨g, 9, none⟩ (.int .u8 0)).setCell ⟨g, 10, none⟩ (.int .u8 255)).setCell ⟨g, 11, none⟩ (.int .u8 255)).setCell ⟨g, 12, none⟩ (.int .u8 a)).setCell ⟨g, 13, none⟩ (.int .u8 b)) g 84 #[x0, x1, x2, x3, x4, x5, x6, x7, .int .u8 0, .int .u8 0, .int .u8 255, .int .u8 255, .int .u8 a, .int .u8 b, x14, x15]) := B4.out.set_ 13 _
  have X5 : Hid (Ext w0 ((((((w.setCell ⟨g, 8, none⟩ (.int .u8 0)).setCell ⟨g, 9, none⟩ (.int .u8 0)).setCell ⟨g, 10, none⟩ (.int .u8 255)).setCell ⟨g, 11, none⟩ (.int .u8 255)).setCell ⟨g, 12, none⟩ (.int .u8 a)).setCell ⟨g, 13, none⟩ (.int .u8 b))) := Below.setCell X4.out hg _
  have B6 : Hid (Blk (((((((w.setCell ⟨g, 8, none⟩ (.int .u8 0)).setCell ⟨g, 9, none⟩ (.int .u8 0)).setCell ⟨g, 10, none⟩ (.int .u8 255)).setCell ⟨g, 11, none⟩ (.int .u8 255)).setCell ⟨g, 12, none⟩ (.int .u8 a)).setCell ⟨g, 13, none⟩ (.int .u8 b)).setCell ⟨g, 14, none⟩ (.int .u8 d)) g 84 #[x0, x1, x2, x3, x4, x5, x6, x7, .int .u8 0, .int .u8 0, .int .u8 255, .int .u8 255, .int .u8 a, .int .u8 b, .int .u8 d, x15]) := B5.out.set_ 14 _
  have X6 : Hid (Ext w0 (((((((w.setCell ⟨g, 8, none⟩ (.int .u8 0)).setCell ⟨g, 9, none⟩ (.int .u8 0)).setCell ⟨g, 10, none⟩ (.int .u8 255)).setCell ⟨g, 11, none⟩ (.int .u8 255)).setCell ⟨g, 12, none⟩ (.int .u8 a)).setCell ⟨g, 13, none⟩ (.int .u8 b)).setCell ⟨g, 14, none⟩ (.int .u8 d))) := Below.setCell X5.out hg _
  have B7 : Hid (Blk ((((((((w.setCell ⟨g, 8, none⟩ (.int .u8 0)).setCell ⟨g, 9, none⟩ (.int .u8 0)).setCell ⟨g, 10, none⟩ (.int .u8 255)).setCell ⟨g, 11, none⟩ (.int .u8 255)).setCell ⟨g, 12, none⟩ (.int .u8 a)).setCell ⟨g, 13, none⟩ (.int .u8 b)).setCell ⟨g, 14, none⟩ (.int .u8 d)).setCell ⟨g, 15, none⟩ (.int .u8 q)) g 84 #[x0, x1, x2, x3, x4, x5, x6, x7, .int .u8 0, .int .u8 0, .int .u8 255, .int .u8 255, .int .u8 a, .int .u8 b, .int .u8 d, .int .u8 q]) := B6.out.set_ 15 _
  have X7 : Hid (Ext w0 ((((((((w.setCell ⟨g, 8, none⟩ (.int .u8 0)).setCell ⟨g, 9, none⟩ (.int .u8 0)).setCell ⟨g, 10, none⟩ (.int .u8 255)).setCell ⟨g, 11, none⟩ (.int .u8 255)).setCell ⟨g, 12, none⟩ (.int .u8 a)).setCell ⟨g, 13, none⟩ (.int .u8 b)).setCell ⟨g, 14, none⟩ (.int .u8 d)).setCell ⟨g, 15, none⟩ (.int .u8 q))) := Below.setCell X6.out hg _
  exact ⟨rfl, B7.out, X7.out⟩

set_option maxHeartbeats 8000000 in
set_option maxRecDepth 100000 in
theorem BEPut_hi (g c : Nat) (x0 x1 x2 x3 x4 x5 x6 x7 x8 x9 x10 x11 x12 x13 x14 x15 : Value) (w0 w : World) (hB : Blk w g 84 #[x0, x1, x2, x3, x4, x5, x6, x7, x8, x9, x10, x11, x12, x13, x14, x15]) (hx : Ext w0 w) (hg : w0.heap.size ≤ g) :
    Calls Tryz.prog 97 #[.slice (some ⟨g, 0, none⟩) 8 c, .int .u64 0] w (fun e w' => e = .returned (.tuple #[]) ∧ Blk w' g 84 #[.int .u8 0, .int .u8 0, .int .u8 0, .int .u8 0, .int .u8 0, .int .u8 0, .int .u8 0, .int .u8 0, x8, x9, x10, x11, x12, x13, x14, x15] ∧ Ext w0 w') := by
  have HB := Lib.hid hB
  have c0 := hB.cell 0
  have f0 := hB.frozen 0
  have c1 := hB.cell 1
  have f1 := hB.frozen 1
  have c2 := hB.cell 2
  have f2 := hB.frozen 2
  have c3 := hB.cell 3
  have f3 := hB.frozen 3
  have c4 := hB.cell 4
  have f4 := hB.frozen 4
  have c5 := hB.cell 5
  have f5 := hB.frozen 5
  have c6 := hB.cell 6
  have f6 := hB.frozen 6
  have c7 := hB.cell 7
  have f7 := hB.frozen 7
  clear hB
  go_enter Tryz.func97, Tryz.ntmps97
  go_wp2
  go_end0
  have B0 : Hid (Blk (w.setCell ⟨g, 0, none⟩ (.int .u8 0)) g 84 #[.int .u8 0, x1, x2, x3, x4, x5, x6, x7, x8, x9, x10, x11, x12, x13, x14, x15]) := HB.out.set_ 0 _
  have X0 : Hid (Ext w0 (w.setCell ⟨g, 0, none⟩ (.int .u8 0))) := Below.setCell hx hg _
  have B1 : Hid (Blk ((w.setCell ⟨g, 0, none⟩ (.int .u8 0)).setCell ⟨g, 1, none⟩ (.int .u8 0)) g 84 #[.int .u8 0, .int .u8 0, x2, x3, x4, x5, x6, x7, x8, x9, x10, x11, x12, x13, x14, x15]) := B0.out.set_ 1 _
  have X1 : Hid (Ext w0 ((w.setCell ⟨g, 0, none⟩ (.int .u8 0)).setCell ⟨g, 1, none⟩ (.int .u8 0))) := Below.setCell X0.out hg _
  have B2 : Hid (Blk (((w.setCell ⟨g, 0, none⟩ (.int .u8 0)).setCell ⟨g, 1, none⟩ (.int .u8 0)).setCell ⟨g, 2, none⟩ (.int .u8 0)) g 84 #[.int .u8 0, .int .u8 0, .int .u8 0, x3, x4, x5, x6, x7, x8, x9, x10, x11, x12, x13, x14, x15]) := B1.out.set_ 2 _
  have X2 : Hid (Ext w0 (((w.setCell ⟨g, 0, none⟩ (.int .u8 0)).setCell ⟨g, 1, none⟩ (.int .u8 0)).setCell ⟨g, 2, none⟩ (.int .u8 0))) := Below.setCell X1.out hg _
  have B3 : Hid (Blk ((((w.setCell ⟨g, 0, none⟩ (.int .u8 0)).setCell ⟨g, 1, none⟩ (.int .u8 0)).setCell ⟨g, 2, none⟩ (.int .u8 0)).setCell ⟨g, 3, none⟩ (.int .u8 0)) g 84 #[.int .u8 0, .int .u8 0, .int .u8 0, .int .u8 0, x4, x5, x6, x7, x8, x9, x10, x11, x12, x13, x14, x15]) := B2.out.set_ 3 _
  have X3 : Hid (Ext w0 ((((w.setCell ⟨g, 0, none⟩ (.int .u8 0)).setCell ⟨g, 1, none⟩ (.int .u8 0)).setCell ⟨g, 2, none⟩ (.int .u8 0)).setCell ⟨g, 3, none⟩ (.int .u8 0))) := Below.setCell X2.out hg _
  have B4 : Hid (Blk (((((w.setCell ⟨g, 0, none⟩ (.int .u8 0)).setCell ⟨g, 1, none⟩ (.int .u8 0)).setCell ⟨g, 2, none⟩ (.int .u8 0)).setCell ⟨g, 3, none⟩ (.int .u8 0)).setCell ⟨g, 4, none⟩ (.int .u8 0)) g 84 #[.int .u8 0, .int .u8 0, .int .u8 0, .int .u8 0, .int .u8 0, x5, x6, x7, x8, x9, x10, x11, x12, x13, x14, x15]) := B3.out.set_ 4 _
  have X4 : Hid (Ext w0 (((((w.setCell ⟨g, 0, none⟩ (.int .u8 0)).setCell ⟨g, 1, none⟩ (.int .u8 0)).setCell ⟨g, 2, none⟩ (.int .u8 0)).setCell ⟨g, 3, none⟩ (.int .u8 0)).setCell ⟨g, 4, none⟩ (.int .u8 0))) := Below.setCell X3.out hg _
  have B5 : Hid (Blk ((((((w.setCell ⟨g, 0, none⟩ (.int .u8 0)).setCell ⟨g, 1, none⟩ (.int .u8 0)).setCell ⟨g, 2, none⟩ (.int .u8 0)).setCell ⟨g, 3, none⟩ (.int .u8 0)).setCell ⟨g, 4, none⟩ (.int .u8 0)).setCell ⟨g, 5, none⟩ (.int .u8 0)) g 84 #[.int .u8 0, .int .u8 0, .int .u8 0, .int .u8 0, .int .u8 0, .int .u8 0, x6, x7, x8, x9, x10, x11, x12, x13, x14, x15]) := B4.out.set_ 5 _
  have X5 : Hid (Ext w0 ((((((w.setCell ⟨g, 0, none⟩ (.int .u8 0)).setCell ⟨g, 1, none⟩ (.int .u8 0)).setCell ⟨g, 2, none⟩ (.int .u8 0)).setCell ⟨g, 3, none⟩ (.int .u8 0)).setCell ⟨g, 4, none⟩ (.int .u8 0)).setCell ⟨g, 5, none⟩ (.int .u8 0))) := Below.setCell X4.out hg _
  have B6 : Hid (Blk (((((((w.setCell ⟨g, 0, none⟩ (.int .u8 0)).setCell ⟨g, 1, none⟩ (.int .u8 0)).setCell ⟨g, 2, none⟩ (.int .u8 0)).setCell ⟨g, 3, none⟩ (.int .u8 0)).setCell ⟨g, 4, none⟩ (.int .u8 0)).setCell ⟨g, 5, none⟩ (.int .u8 0)).setCell ⟨g, 6, none⟩ (.int .u8 0)) g 84 #[.int .u8 0, .int .u8 0, .int .u8 0, .int .u8 0, .int .u8 0, .int .u8 0, .int .u8 0, x7, x8, x9, x10, x11, x12, x13, x14, x15]) := B5.out.set_ 6 _
  have X6 : Hid (Ext w0 (((((((w.setCell ⟨g, 0, none⟩ (.int .u8 0)).setCell ⟨g, 1, none⟩ (.int .u8 0)).setCell ⟨g, 2, none⟩ (.int .u8 0)).setCell ⟨g, 3, none⟩ (.int .u8 0)).setCell ⟨g, 4, none⟩ (.int .u8 0)).setCell ⟨g, 5, none⟩ (.int .u8 0)).setCell ⟨g, 6, none⟩ (.int .u8 0))) := Below.setCell X5.out hg _
  have B7 : Hid (Blk ((((((((w.setCell ⟨g, 0, none⟩ (.int .u8 0)).setCell ⟨g, 1, none⟩ (.int .u8 0)).setCell ⟨g, 2, none⟩ (.int .u8 0)).setCell ⟨g, 3, none⟩ (.int .u8 0)).setCell ⟨g, 4, none⟩ (.int .u8 0)).setCell ⟨g, 5, none⟩ (.int .u8 0)).setCell ⟨g, 6, none⟩ (.int .u8 0)).setCell ⟨g, 7, none⟩ (.int .u8 0)) g 84 #[.int .u8 0, .int .u8 0, .int .u8 0, .int .u8 0, .int .u8 0, .int .u8 0, .int .u8 0, .int .u8 0, x8, x9, x10, x11, x12, x13, x14, x15]) := B6.out.set_ 7 _
  have X7 : Hid (Ext w0 ((((((((w.setCell ⟨g, 0, none⟩ (.int .u8 0)).setCell ⟨g, 1, none⟩ (.int .u8 0)).setCell ⟨g, 2, none⟩ (.int .u8 0)).setCell ⟨g, 3, none⟩ (.int .u8 0)).setCell ⟨g, 4, none⟩ (.int .u8 0)).setCell ⟨g, 5, none⟩ (.int .u8 0)).setCell ⟨g, 6, none⟩ (.int .u8 0)).setCell ⟨g, 7, none⟩ (.int .u8 0))) := Below.setCell X6.out hg _
  exact ⟨rfl, B7.out, X7.out⟩

end Go.Proofs.YtedniebpabfglaaGreatDoor
end
section
namespace Go.Proofs.YtedniebpabfglaaGreatDoor
open Go.RowKit

/-- An address of four bytes among sixteen. -/
abbrev four16 (a b d q : Nat) : Array Value := #[.int .u8 0, .int .u8 0, .int .u8 0, .int .u8 0, .int .u8 0, .int .u8 0, .int .u8 0, .int .u8 0, .int .u8 0, .int .u8 0, .int .u8 255, .int .u8 255, .int .u8 a, .int .u8 b, .int .u8 d, .int .u8 q]
theorem one_four16 (a b d q : Nat) : (four16 a b d q).all (·.oneCell') = true := by simp [Value.oneCell']
set_option maxHeartbeats 8000000 in
set_option maxRecDepth 100000 in
theorem As16_4 (zb zo v a b d q : Nat) (w : World) (hv : v = 281470681743360 + (a * 16777216 + b * 65536 + d * 256 + q)) (ha : a < 256) (hb : b < 256) (hd : d < 256) (hq : q < 256) :
    Calls Tryz.prog 75 #[addr4 zb zo v] w (fun e w' => e = .returned (.agg (four16 a b d q)) ∧ Ext w w') := by
  have HAA : Hid (Blk (w.alloc (.cells #[.int .u64 0, .int .u64 (v : Nat), .pointer (some ⟨zb, zo, none⟩)] 77)) w.heap.size 77 #[.int .u64 0, .int .u64 (v : Nat), .pointer (some ⟨zb, zo, none⟩)]) := Blk.new _ _ _
  have HB : Hid (Blk ((w.alloc (.cells #[.int .u64 0, .int .u64 (v : Nat), .pointer (some ⟨zb, zo, none⟩)] 77)).alloc (.cells #[.int .u8 0, .int .u8 0, .int .u8 0, .int .u8 0, .int .u8 0, .int .u8 0, .int .u8 0, .int .u8 0, .int .u8 0, .int .u8 0, .int .u8 0, .int .u8 0, .int .u8 0, .int .u8 0, .int .u8 0, .int .u8 0] 84)) (w.heap.size + 1) 84 #[.int .u8 0, .int .u8 0, .int .u8 0, .int .u8 0, .int .u8 0, .int .u8 0, .int .u8 0, .int .u8 0, .int .u8 0, .int .u8 0, .int .u8 0, .int .u8 0, .int .u8 0, .int .u8 0, .int .u8 0, .int .u8 0]) := by
    have := Blk.new (w.alloc (.cells #[.int .u64 0, .int .u64 (v : Nat), .pointer (some ⟨zb, zo, none⟩)] 77)) 84 #[.int .u8 0, .int .u8 0, .int .u8 0, .int .u8 0, .int .u8 0, .int .u8 0, .int .u8 0, .int .u8 0, .int .u8 0, .int .u8 0, .int .u8 0, .int .u8 0, .int .u8 0, .int .u8 0, .int .u8 0, .int .u8 0]
    simpa [Hid] using this
  have HX : Hid (Ext (w.alloc (.cells #[.int .u64 0, .int .u64 (v : Nat), .pointer (some ⟨zb, zo, none⟩)] 77)) ((w.alloc (.cells #[.int .u64 0, .int .u64 (v : Nat), .pointer (some ⟨zb, zo, none⟩)] 77)).alloc (.cells #[.int .u8 0, .int .u8 0, .int .u8 0, .int .u8 0, .int .u8 0, .int .u8 0, .int .u8 0, .int .u8 0, .int .u8 0, .int .u8 0, .int .u8 0, .int .u8 0, .int .u8 0, .int .u8 0, .int .u8 0, .int .u8 0] 84))) := (Ext.refl _).alloc _
  have HWA : Hid (Ext w (w.alloc (.cells #[.int .u64 0, .int .u64 (v : Nat), .pointer (some ⟨zb, zo, none⟩)] 77))) := (Ext.refl w).alloc _
  have HSA : Hid ((w.alloc (.cells #[.int .u64 0, .int .u64 (v : Nat), .pointer (some ⟨zb, zo, none⟩)] 77)).heap.size ≤ w.heap.size + 1) := by unfold Hid; simp
  have HV := Lib.hid hv
  clear hv
  go_enter Tryz.func75, Tryz.ntmps75
  go_wp2
  generalize ((w.alloc (.cells #[.int .u64 0, .int .u64 (v : Nat), .pointer (some ⟨zb, zo, none⟩)] 77)).alloc (.cells #[.int .u8 0, .int .u8 0, .int .u8 0, .int .u8 0, .int .u8 0, .int .u8 0, .int .u8 0, .int .u8 0, .int .u8 0, .int .u8 0, .int .u8 0, .int .u8 0, .int .u8 0, .int .u8 0, .int .u8 0, .int .u8 0] 84)) = w0 at HB HX ⊢
  generalize (w.alloc (.cells #[.int .u64 0, .int .u64 (v : Nat), .pointer (some ⟨zb, zo, none⟩)] 77)) = wa at HAA HX HWA HSA
  have c0 := (HAA.out.ext HX.out).cell 0
  go_still_tail 4, (by kernel_rfl)
  change wpList _ _ _ _ _ w0.drew
  have HB1 : Hid (Blk w0.drew (w.heap.size + 1) 84 #[.int .u8 0, .int .u8 0, .int .u8 0, .int .u8 0, .int .u8 0, .int .u8 0, .int .u8 0, .int .u8 0, .int .u8 0, .int .u8 0, .int .u8 0, .int .u8 0, .int .u8 0, .int .u8 0, .int .u8 0, .int .u8 0]) := HB.out
  have HX1 : Hid (Ext wa w0.drew) := HX.out.drew
  clear HB HX c0
  generalize w0.drew = w1 at HB1 HX1 ⊢
  go_wp2_with fail
  refine (BEPut_hi (w.heap.size + 1) 16 (.int .u8 0) (.int .u8 0) (.int .u8 0) (.int .u8 0) (.int .u8 0) (.int .u8 0) (.int .u8 0) (.int .u8 0) (.int .u8 0) (.int .u8 0) (.int .u8 0) (.int .u8 0) (.int .u8 0) (.int .u8 0) (.int .u8 0) (.int .u8 0) wa w1 HB1.out HX1.out HSA.out).mono ?_
  rintro e w2 ⟨rfl, hB2, hX2⟩
  have HB2 := Lib.hid hB2; have HX2 := Lib.hid hX2
  clear hB2 hX2 HB1 HX1
  go_wp2_with fail
  have c1 := (HAA.out.ext HX2.out).cell 1
  go_still_tail 4, (by kernel_rfl)
  change wpList _ _ _ _ _ w2.drew
  have HB3 : Hid (Blk w2.drew (w.heap.size + 1) 84 #[.int .u8 0, .int .u8 0, .int .u8 0, .int .u8 0, .int .u8 0, .int .u8 0, .int .u8 0, .int .u8 0, .int .u8 0, .int .u8 0, .int .u8 0, .int .u8 0, .int .u8 0, .int .u8 0, .int .u8 0, .int .u8 0]) := HB2.out
  have HX3 : Hid (Ext wa w2.drew) := HX2.out.drew
  clear HB2 HX2 c1
  generalize w2.drew = w3 at HB3 HX3 ⊢
  go_wp2_with fail
  refine (BEPut_lo (w.heap.size + 1) 8 v a b d q (.int .u8 0) (.int .u8 0) (.int .u8 0) (.int .u8 0) (.int .u8 0) (.int .u8 0) (.int .u8 0) (.int .u8 0) (.int .u8 0) (.int .u8 0) (.int .u8 0) (.int .u8 0) (.int .u8 0) (.int .u8 0) (.int .u8 0) (.int .u8 0) wa w3 HV.out ha hb hd hq HB3.out HX3.out HSA.out).mono ?_
  rintro e w4 ⟨rfl, hB4, hX4⟩
  have HB4 := Lib.hid hB4; have HX4 := Lib.hid hX4
  clear hB4 hX4 HB3 HX3
  have q0 := HB4.out.cell 0
  have q1 := HB4.out.cell 1
  have q2 := HB4.out.cell 2
  have q3 := HB4.out.cell 3
  have q4 := HB4.out.cell 4
  have q5 := HB4.out.cell 5
  have q6 := HB4.out.cell 6
  have q7 := HB4.out.cell 7
  have q8 := HB4.out.cell 8
  have q9 := HB4.out.cell 9
  have q10 := HB4.out.cell 10
  have q11 := HB4.out.cell 11
  have q12 := HB4.out.cell 12
  have q13 := HB4.out.cell 13
  have q14 := HB4.out.cell 14
  have q15 := HB4.out.cell 15
  go_wp2_with (refine wpList_store_row rfl 84 _ _ rfl (w.heap.size + 1) (four16 a b d q) rfl rfl 84 (four16 a b d q) HB4.out size16 rfl (one_four16 a b d q) ?_)
  have HX5 : Hid (Ext w (w4.setRow (w.heap.size + 1) (four16 a b d q))) := HWA.out.tr (HX4.out.row HSA.out _)
  have HB5 : Hid (Blk (w4.setRow (w.heap.size + 1) (four16 a b d q)) (w.heap.size + 1) 84 (four16 a b d q)) := HB4.out.row _
  generalize w4.setRow (w.heap.size + 1) (four16 a b d q) = w5 at HX5 HB5 ⊢
  have hr := run_loadVar_row (P := Tryz.prog) w5 (w.heap.size + 1) 84 84 (four16 a b d q) (0, 0) _ HB5.out Tryz.underlying84 rfl size16
  refine bodyPost_ret (v := .agg (four16 a b d q)) (by simp [results, Tryz.results75, asAddr, hr, Act.put]) rfl ⟨rfl, HX5.out⟩
end Go.Proofs.YtedniebpabfglaaGreatDoor
end
section
namespace Go.Proofs.YtedniebpabfglaaGreatDoor
open Go.RowKit

/-- Four bytes in a row. -/
def FourB (l : List Value) : Prop := l.length = 4 ∧ ∀ j, j < 4 → ∃ x : Nat, x < 256 ∧ l[j]? = some (.int .u8 x)
theorem FourB.set_ {l : List Value} (h : FourB l) (i x : Nat) (hx : x < 256) : FourB (l.set i (.int .u8 x)) := by
  refine ⟨by rw [List.length_set]; exact h.1, fun j hj => ?_⟩
  by_cases he : i = j
  · subst he
    exact ⟨x, hx, by rw [List.getElem?_set_self (by rw [h.1]; exact hj)]⟩
  · rw [List.getElem?_set_ne he]; exact h.2 j hj
theorem made_bytes (n : Nat) : (madeCells (Value.cells (.int .u8 0)) (n * 1)).toList = List.replicate n (.int .u8 0) := by
  rw [Nat.mul_one]; exact toList_madeCells_one _ _
theorem FourB.zero : FourB (madeCells (Value.cells (.int .u8 0)) (4 * 1)).toList := by
  rw [made_bytes]
  exact ⟨rfl, fun j hj => ⟨0, by omega, by rw [List.getElem?_replicate, if_pos hj]; rfl⟩⟩
/-- A byte of a mask of so many ones. -/
def mb (k : Nat) : Nat := if 8 ≤ k then 255 else 255 - 255 / 2 ^ k
theorem mb_lt (k : Nat) : mb k < 256 := by
  unfold mb
  split
  · omega
  · exact Nat.lt_of_le_of_lt (Nat.sub_le _ _) (by omega)
/-- The first bytes of the mask. -/
def MaskTo (n k : Nat) (l : List Value) : Prop := ∀ j, j < k → l[j]? = some (.int .u8 (mb (n - 8 * j) : Nat))
theorem MaskTo.set_ {n k : Nat} {l : List Value} (h : MaskTo n k l) (x : Nat) (hl : FourB l) (hk : k < 4) (hx : x = mb (n - 8 * k)) : MaskTo n (k + 1) (l.set k (.int .u8 (x : Nat))) := fun j hj => by
  subst hx
  by_cases he : k = j
  · subst he
    rw [List.getElem?_set_self (by rw [hl.1]; exact hk)]
  · rw [List.getElem?_set_ne he]; exact h j (by omega)
/-- The mask of so many ones. -/
def cidr (n : Nat) : List Value := [.int .u8 (mb n : Nat), .int .u8 (mb (n - 8) : Nat), .int .u8 (mb (n - 16) : Nat), .int .u8 (mb (n - 24) : Nat)]
theorem mask_all {n : Nat} {l : List Value} (h : MaskTo n 4 l) (hl : FourB l) : l = cidr n := by
  match l, hl.1, h with
  | [a, b, c, d], _, h =>
    have h0 := h 0 (by omega)
    have h1 := h 1 (by omega)
    have h2 := h 2 (by omega)
    have h3 := h 3 (by omega)
    simp at h0 h1 h2 h3
    rw [h0, h1, h2, h3]; rfl
set_option maxHeartbeats 8000000 in
set_option maxRecDepth 100000 in
theorem CIDRMask_4 (n : Nat) (w : World) (hn : n ≤ 32) :
    Calls Tryz.prog 74 #[.int .i64 n, .int .i64 32] w (fun e w' => (e = .returned (.slice (some ⟨w.heap.size, 0, none⟩) 4 4) ∧ w'.ownsRow w.heap.size 5 1 (.slice (some ⟨w.heap.size, 0, none⟩) 4 4) 4 (cidr n)) ∧ Ext w w') := by
  obtain ⟨i0, hi, hz0, hz1, hz2⟩ := info_parts info_u8
  have hnn : ¬ (32 : Int) < (n : Int) := by omega
  go_enter Tryz.func74, Tryz.ntmps74
  go_wp2_with (at_make; refine wpList_make_full _ rfl (.tmp 24) (.tmp 24) 82 rfl w.heap.size 5 i0 (.int .u8 0) 1 Tryz.underlying82 hi hz0 hz1 .i64 .i64 4 4 4 rfl rfl rfl rfl (by rw [hz2]; omega) (by unfold maxLen; omega) (Nat.le_refl _) ?_; intro w1 hown hgrow)
  have hx1 : Ext w w1 := ext_none hgrow
  have HO := Lib.hid hown
  clear hgrow hown
  go_loopw [7, 8] (fun v i wr => ∃ (k m : Nat) (l : List Value), i = .int .i64 k ∧ k ≤ 4 ∧ v = .int .u64 m ∧ (m ≤ 32 ∧ m = n - 8 * k ∧ MaskTo n k l) ∧ FourB l ∧ wr.ownsRow w.heap.size 5 1 (.slice (some ⟨w.heap.size, 0, none⟩) 4 4) 4 l ∧ Ext w wr) (fun _ i _ => 4 - (intOf i).toNat)
  case atStart => exact ⟨0, n, _, rfl, by omega, rfl, ⟨hn, by omega, fun j hj => by omega⟩, FourB.zero, HO.out, hx1⟩
  case round =>
    obtain ⟨k, m, l, rfl, hk, rfl, ⟨hm, hmn, hmt⟩, hl, hown, hb⟩ := hrel
    have HMN := Lib.hid hmn; have HMT := Lib.hid hmt
    clear hmn hmt
    have HL := Lib.hid hl
    by_cases hlt : k < 4
    · obtain ⟨x, hx, hlx⟩ := hl.2 k hlt
      have hcell : wr.cell? ⟨w.heap.size, k, none⟩ = some (.int .u8 x) := by rw [hown.cellAt k (by omega)]; exact hlx
      have hfr : wr.frozen? ⟨w.heap.size, k, none⟩ = false := hown.frozenAt k
      have hst : ∀ y : Nat, (wr.setCell ⟨w.heap.size, k, none⟩ (.int .u8 y)).ownsRow w.heap.size 5 1 (.slice (some ⟨w.heap.size, 0, none⟩) 4 4) 4 (l.set k (.int .u8 y)) := fun y => (hown.stored k (.int .u8 y)).1
      have HST := Lib.hid hst
      clear hl hown hlx hst
      by_cases h8 : 8 ≤ m
      · have h8i : (8 : Int) ≤ (m : Int) := by omega
        go_wp2
        go_roundw
        case rel => exact ⟨k + 1, m - 8, l.set k (.int .u8 (255 : Nat)), by go_num, by omega, by go_num, ⟨by omega, by have := HMN.out; omega, HMT.out.set_ 255 HL.out hlt (by rw [← HMN.out]; unfold mb; rw [if_pos h8])⟩, HL.out.set_ k 255 (by omega), HST.out 255, Below.setCell hb (Nat.le_refl _) _⟩
        case measure => simp [intOf]; omega
      · have hcase : m = 0 ∨ m = 1 ∨ m = 2 ∨ m = 3 ∨ m = 4 ∨ m = 5 ∨ m = 6 ∨ m = 7 := by omega
        clear h8
        have HM0 : Hid (n - 8 * (k + 1) = 0) := by have := HMN.out; unfold Hid; omega
        rcases hcase with rfl | rfl | rfl | rfl | rfl | rfl | rfl | rfl
        · go_wp2
          go_roundw
          case rel => exact ⟨k + 1, 0, l.set k (.int .u8 (0 : Nat)), by go_num, by omega, rfl, ⟨by omega, HM0.out.symm, HMT.out.set_ 0 HL.out hlt (by rw [← HMN.out]; rfl)⟩, HL.out.set_ k 0 (by omega), HST.out 0, Below.setCell hb (Nat.le_refl _) _⟩
          case measure => simp [intOf]; omega
        · go_wp2
          go_roundw
          case rel => exact ⟨k + 1, 0, l.set k (.int .u8 (128 : Nat)), by go_num, by omega, rfl, ⟨by omega, HM0.out.symm, HMT.out.set_ 128 HL.out hlt (by rw [← HMN.out]; rfl)⟩, HL.out.set_ k 128 (by omega), HST.out 128, Below.setCell hb (Nat.le_refl _) _⟩
          case measure => simp [intOf]; omega
        · go_wp2
          go_roundw
          case rel => exact ⟨k + 1, 0, l.set k (.int .u8 (192 : Nat)), by go_num, by omega, rfl, ⟨by omega, HM0.out.symm, HMT.out.set_ 192 HL.out hlt (by rw [← HMN.out]; rfl)⟩, HL.out.set_ k 192 (by omega), HST.out 192, Below.setCell hb (Nat.le_refl _) _⟩
          case measure => simp [intOf]; omega
        · go_wp2
          go_roundw
          case rel => exact ⟨k + 1, 0, l.set k (.int .u8 (224 : Nat)), by go_num, by omega, rfl, ⟨by omega, HM0.out.symm, HMT.out.set_ 224 HL.out hlt (by rw [← HMN.out]; rfl)⟩, HL.out.set_ k 224 (by omega), HST.out 224, Below.setCell hb (Nat.le_refl _) _⟩
          case measure => simp [intOf]; omega
        · go_wp2
          go_roundw
          case rel => exact ⟨k + 1, 0, l.set k (.int .u8 (240 : Nat)), by go_num, by omega, rfl, ⟨by omega, HM0.out.symm, HMT.out.set_ 240 HL.out hlt (by rw [← HMN.out]; rfl)⟩, HL.out.set_ k 240 (by omega), HST.out 240, Below.setCell hb (Nat.le_refl _) _⟩
          case measure => simp [intOf]; omega
        · go_wp2
          go_roundw
          case rel => exact ⟨k + 1, 0, l.set k (.int .u8 (248 : Nat)), by go_num, by omega, rfl, ⟨by omega, HM0.out.symm, HMT.out.set_ 248 HL.out hlt (by rw [← HMN.out]; rfl)⟩, HL.out.set_ k 248 (by omega), HST.out 248, Below.setCell hb (Nat.le_refl _) _⟩
          case measure => simp [intOf]; omega
        · go_wp2
          go_roundw
          case rel => exact ⟨k + 1, 0, l.set k (.int .u8 (252 : Nat)), by go_num, by omega, rfl, ⟨by omega, HM0.out.symm, HMT.out.set_ 252 HL.out hlt (by rw [← HMN.out]; rfl)⟩, HL.out.set_ k 252 (by omega), HST.out 252, Below.setCell hb (Nat.le_refl _) _⟩
          case measure => simp [intOf]; omega
        · go_wp2
          go_roundw
          case rel => exact ⟨k + 1, 0, l.set k (.int .u8 (254 : Nat)), by go_num, by omega, rfl, ⟨by omega, HM0.out.symm, HMT.out.set_ 254 HL.out hlt (by rw [← HMN.out]; rfl)⟩, HL.out.set_ k 254 (by omega), HST.out 254, Below.setCell hb (Nat.le_refl _) _⟩
          case measure => simp [intOf]; omega
    · obtain rfl : k = 4 := by omega
      have HOW := Lib.hid hown
      clear hown hl
      go_wp2
      go_ret
      exact ⟨⟨rfl, by have := HOW.out; rw [mask_all HMT.out HL.out] at this; exact this⟩, hb⟩
end Go.Proofs.YtedniebpabfglaaGreatDoor
end
section
namespace Go.Proofs.YtedniebpabfglaaGreatDoor
open Go.RowKit

/-- The twelve bytes of the prefix. -/
abbrev pre12 : List Int := [0, 0, 0, 0, 0, 0, 0, 0, 0, 0, 255, 255]
theorem pre12_at (j : Nat) (h : j < 12) : pre12.getD j 0 = if j < 10 then 0 else 255 := by
  match j, h with
  | 0, _ | 1, _ | 2, _ | 3, _ | 4, _ | 5, _ | 6, _ | 7, _ | 8, _ | 9, _ | 10, _ | 11, _ => rfl
set_option maxHeartbeats 4000000 in
set_option maxRecDepth 100000 in
theorem Equal_pre (g c pb po pc : Nat) (w : World) (h1 : ∀ j, j < 12 → w.cell? ⟨g, j, none⟩ = some (.int .u8 (if j < 10 then 0 else 255))) (h2 : ∀ j, j < 12 → w.cell? ⟨pb, po + j, none⟩ = some (.int .u8 (if j < 10 then 0 else 255))) :
    Calls Tryz.prog 99 #[.slice (some ⟨g, 0, none⟩) 12 c, .slice (some ⟨pb, po, none⟩) 12 pc] w (fun e w' => e = .returned (.bool true) ∧ w' = w) := by
  have q1 := run_convert_bytes_arg (P := Tryz.prog) w 53 5 Tryz.underlying53 Tryz.underlying5 g 0 12 c pre12 rfl (fun i hi => by rw [Nat.zero_add, h1 i hi, pre12_at i hi]) 9 Tryz.underlying9
  have q2 := run_convert_bytes_arg (P := Tryz.prog) w 53 5 Tryz.underlying53 Tryz.underlying5 pb po 12 pc pre12 rfl (fun i hi => by rw [h2 i hi, pre12_at i hi]) 9 Tryz.underlying9
  generalize strOfNums pre12 = S at q1 q2
  go_enter Tryz.func99, Tryz.ntmps99
  go_wp2
  go_ret
  first
    | exact ⟨rfl, rfl⟩
    | (refine ⟨?_, rfl⟩; simp)
set_option maxHeartbeats 4000000 in
set_option maxRecDepth 100000 in
theorem isZeros_ten (g o c : Nat) (w : World) (h1 : ∀ j, j < 10 → w.cell? ⟨g, o + j, none⟩ = some (.int .u8 0)) :
    Calls Tryz.prog 124 #[.slice (some ⟨g, o, none⟩) 10 c] w (fun e w' => e = .returned (.bool true) ∧ w' = w) := by
  have H := Lib.hid h1; clear h1
  go_enter Tryz.func124, Tryz.ntmps124
  go_wp2
  go_loopw [3] (fun i wr => ∃ k : Nat, i = .int .i64 k ∧ k ≤ 10 ∧ wr = w) (fun i _ => 10 - (intOf i).toNat)
  case atStart => exact ⟨0, rfl, by omega, rfl⟩
  case round =>
    obtain ⟨k, rfl, hk, rfl⟩ := hrel
    by_cases hlt : k < 10
    · have hc := H.out k hlt
      go_wp2
      go_roundw
      case rel => first | exact ⟨k + 1, by go_num, by omega, rfl⟩ | exact ⟨k + 1, by go_num, by omega, trivial⟩
      case measure => simp [intOf]; omega
    · obtain rfl : k = 10 := by omega
      go_wp2
      go_ret
      exact ⟨rfl, rfl⟩
set_option maxHeartbeats 4000000 in
set_option maxRecDepth 100000 in
theorem To4_four (g o c : Nat) (w : World) :
    Calls Tryz.prog 100 #[.slice (some ⟨g, o, none⟩) 4 c] w (fun e w' => e = .returned (.slice (some ⟨g, o, none⟩) 4 c) ∧ w' = w) := by
  go_enter Tryz.func100, Tryz.ntmps100
  go_wp2
  go_ret
  exact ⟨rfl, rfl⟩
set_option maxHeartbeats 4000000 in
set_option maxRecDepth 100000 in
theorem To4_none (w : World) :
    Calls Tryz.prog 100 #[.slice none 0 0] w (fun e w' => e = .returned (.slice none 0 0) ∧ w' = w) := by
  go_enter Tryz.func100, Tryz.ntmps100
  go_wp2
  go_ret
  exact ⟨rfl, rfl⟩
set_option maxHeartbeats 4000000 in
set_option maxRecDepth 100000 in
theorem To4_16 (g o c : Nat) (w : World) (hc : 16 ≤ c) (h1 : ∀ j, j < 12 → w.cell? ⟨g, o + j, none⟩ = some (.int .u8 (if j < 10 then 0 else 255))) :
    Calls Tryz.prog 100 #[.slice (some ⟨g, o, none⟩) 16 c] w (fun e w' => (∃ c', e = .returned (.slice (some ⟨g, o + 12, none⟩) 4 c')) ∧ Ext w w') := by
  have q10 : w.cell? ⟨g, o + 10, none⟩ = some (.int .u8 255) := h1 10 (by omega)
  have q11 : w.cell? ⟨g, o + 11, none⟩ = some (.int .u8 255) := h1 11 (by omega)
  have HZ : Hid (∀ c', Calls Tryz.prog 124 #[.slice (some ⟨g, o, none⟩) 10 c'] w (fun e w' => e = .returned (.bool true) ∧ w' = w)) := fun c' => isZeros_ten g o c' w (fun j hj => by
    rw [h1 j (by omega), if_pos hj])
  clear h1
  go_enter Tryz.func100, Tryz.ntmps100
  go_wp2_with fail
  refine (HZ.out _).mono ?_
  rintro e _ ⟨rfl, rfl⟩
  have hc12 : (12 : Int) ≤ 16 := by decide
  go_wp2
  go_ret
  exact ⟨⟨_, rfl⟩, Ext.refl _⟩
end Go.Proofs.YtedniebpabfglaaGreatDoor
end
section
namespace Go.Proofs.YtedniebpabfglaaGreatDoor
open Go.RowKit

set_option maxHeartbeats 4000000 in
set_option maxRecDepth 100000 in
theorem parseIP_ok (zb zo pb po pc : Nat) (s : ByteArray) (w : World) (hs : s.size ≤ 2147483647) (ho : Pl.octsOk 4 (bl s) = true) (ht : IpTab zb zo pb po pc w) :
    Calls Tryz.prog 77 #[.string s] w (fun e w' => (∃ a b d q : Nat, a < 256 ∧ b < 256 ∧ d < 256 ∧ q < 256 ∧ Pl.octsV 4 (bl s) = [a, b, d, q] ∧ e = .returned (.tuple #[.agg (four16 a b d q), .bool true])) ∧ Ext w w') := by
  have HH : Hid (∀ w', Ext w w' → Calls Tryz.prog 71 #[.string s] w' (Addr4Post zb zo (Pl.octsV 4 (bl s)) w')) := fun w' hx => ParseAddr_ok zb zo pb po pc s w' hs ho (ht.ext hx)
  have HT := Lib.hid ht
  clear ho ht
  have HX0 : Hid (Ext w (w.alloc (.cells z16 84))) := (Ext.refl w).alloc _
  have HB0 : Hid (Blk (w.alloc (.cells z16 84)) w.heap.size 84 z16) := Blk.new _ _ _
  go_enter Tryz.func77, Tryz.ntmps77
  go_wp2_with fail
  refine (HH.out _ HX0.out).mono ?_
  rintro e w2 ⟨⟨⟨a, b, d, q, ha, hb, hd, hq, hl⟩, rfl⟩, hb2⟩
  obtain ⟨v, hv⟩ : ∃ v, v = adr (Pl.octsV 4 (bl s)) := ⟨_, rfl⟩
  have hve : v = 281470681743360 + (a * 16777216 + b * 65536 + d * 256 + q) := by rw [hv, hl]; rfl
  rw [← hv]
  have HL := Lib.hid hl; have HVE := Lib.hid hve
  clear hl hve hv
  have HX2 : Hid (Ext w (w2.alloc (.cells #[.int .u64 0, .int .u64 (v : Nat), .pointer (some ⟨zb, zo, none⟩)] 77))) := (HX0.out.tr hb2).alloc _
  have HB2 : Hid (Blk (w2.alloc (.cells #[.int .u64 0, .int .u64 (v : Nat), .pointer (some ⟨zb, zo, none⟩)] 77)) w.heap.size 84 z16) := (HB0.out.ext hb2).alloc _
  have HA2 : Hid (Blk (w2.alloc (.cells #[.int .u64 0, .int .u64 (v : Nat), .pointer (some ⟨zb, zo, none⟩)] 77)) w2.heap.size 77 #[.int .u64 0, .int .u64 (v : Nat), .pointer (some ⟨zb, zo, none⟩)]) := Blk.new _ _ _
  clear hb2 HX0 HB0
  go_wp2_with fail
  refine (Zone_4 zb zo pb po pc v _ (HT.out.ext HX2.out)).mono ?_
  rintro e w3 ⟨rfl, hb3⟩
  have q0 := (HA2.out.ext hb3).cell 0
  have q1 := (HA2.out.ext hb3).cell 1
  have q2 := (HA2.out.ext hb3).cell 2
  have HX3 := Lib.hid (HX2.out.tr hb3)
  have HB3 := Lib.hid (HB2.out.ext hb3)
  clear hb3
  go_wp2_with fail
  refine (As16_4 zb zo v a b d q _ HVE.out ha hb hd hq).mono ?_
  rintro e w4 ⟨rfl, hb4⟩
  have HX4 := Lib.hid (HX3.out.tr hb4)
  have HB4 := Lib.hid (HB3.out.ext hb4)
  clear hb4 q0 q1 q2
  go_wp2_with (refine wpList_store_row rfl 84 _ _ rfl w.heap.size (four16 a b d q) rfl rfl 84 z16 HB4.out size16 rfl (one_four16 a b d q) ?_)
  have HX5 : Hid (Ext w (w4.setRow w.heap.size (four16 a b d q))) := HX4.out.row (Nat.le_refl _) _
  have HB5 : Hid (Blk (w4.setRow w.heap.size (four16 a b d q)) w.heap.size 84 (four16 a b d q)) := HB4.out.row _
  generalize w4.setRow w.heap.size (four16 a b d q) = w5 at HX5 HB5 ⊢
  have hr := run_loadVar_row (P := Tryz.prog) w5 w.heap.size 84 84 (four16 a b d q) (0, 0) _ HB5.out Tryz.underlying84 rfl size16
  refine bodyPost_ret (v := .tuple #[.agg (four16 a b d q), .bool true]) (by simp [results, Tryz.results77, asAddr, hr]) rfl ⟨⟨a, b, d, q, ha, hb, hd, hq, HL.out, rfl⟩, HX5.out⟩
set_option maxHeartbeats 4000000 in
set_option maxRecDepth 100000 in
theorem ParseIP_ok (zb zo pb po pc : Nat) (s : ByteArray) (w : World) (hs : s.size ≤ 2147483647) (ho : Pl.octsOk 4 (bl s) = true) (ht : IpTab zb zo pb po pc w) :
    Calls Tryz.prog 44 #[.string s] w (fun e w' => (∃ g a b d q : Nat, a < 256 ∧ b < 256 ∧ d < 256 ∧ q < 256 ∧ Pl.octsV 4 (bl s) = [a, b, d, q] ∧ w.heap.size ≤ g ∧ e = .returned (.slice (some ⟨g, 0, none⟩) 16 16) ∧ Blk w' g 84 (four16 a b d q)) ∧ Ext w w') := by
  have HH := Lib.hid (parseIP_ok zb zo pb po pc s w hs ho ht)
  clear ho ht
  go_enter Tryz.func44, Tryz.ntmps44
  go_wp2_with fail
  refine HH.out.mono ?_
  rintro e w1 ⟨⟨a, b, d, q, ha, hb, hd, hq, hl, rfl⟩, hb1⟩
  have HX1 := Lib.hid hb1
  clear hb1
  have HB1 : Hid (Blk (w1.alloc (.cells z16 84)) w1.heap.size 84 z16) := Blk.new _ _ _
  have HX2 : Hid (Ext w ((w1.alloc (.cells z16 84)).setRow w1.heap.size (four16 a b d q))) := (HX1.out.alloc _).row HX1.out.size _
  have HB2 : Hid (Blk ((w1.alloc (.cells z16 84)).setRow w1.heap.size (four16 a b d q)) w1.heap.size 84 (four16 a b d q)) := HB1.out.row _
  go_wp2_with (refine wpList_store_row rfl 84 _ _ rfl w1.heap.size (four16 a b d q) rfl rfl 84 z16 HB1.out size16 rfl (one_four16 a b d q) ?_)
  go_ret
  exact ⟨⟨_, a, b, d, q, ha, hb, hd, hq, hl, HX1.out.size, rfl, HB2.out⟩, HX2.out⟩
end Go.Proofs.YtedniebpabfglaaGreatDoor
end
section
namespace Go.Proofs.YtedniebpabfglaaGreatDoor
open Go.RowKit

/-- A byte of a number. -/
abbrev u8 (n : Nat) : UInt8 := UInt8.ofNat n
theorem u8_nat {n : Nat} (h : n < 256) : (u8 n).toNat = n := by simp [Nat.mod_eq_of_lt h]
def cidrB (n : Nat) : List UInt8 := [u8 (mb n), u8 (mb (n - 8)), u8 (mb (n - 16)), u8 (mb (n - 24))]
def preB : List UInt8 := [0, 0, 0, 0, 0, 0, 0, 0, 0, 0, 255, 255]
/-- The net of an address that stands alone. -/
def netIP (l : List Nat) : Net := { ip := preB ++ l.map u8, mask := cidrB 32 }
theorem four_byt {w : World} {g c a b d q ge : Nat} {t : TypeId} (h : Blk w g t (four16 a b d q)) (hc : 16 ≤ c) (ha : a < 256) (hb : b < 256) (hd : d < 256) (hq : q < 256) (hg : g ≠ ge) :
    BytF w ge (.slice (some ⟨g, 0, none⟩) 16 c) (preB ++ [a, b, d, q].map u8) := by
  refine ⟨g, 0, c, rfl, hc, hg, fun j hj => ?_⟩
  have hj : j < 16 := hj
  rw [Nat.zero_add, h.cell j]
  match j, hj with
  | 0, _ | 1, _ | 2, _ | 3, _ | 4, _ | 5, _ | 6, _ | 7, _ | 8, _ | 9, _ | 10, _ | 11, _ => rfl
  | 12, _ => show some (Value.int .u8 (a : Int)) = some (.int .u8 ((u8 a).toNat : Int)); rw [u8_nat ha]
  | 13, _ => show some (Value.int .u8 (b : Int)) = some (.int .u8 ((u8 b).toNat : Int)); rw [u8_nat hb]
  | 14, _ => show some (Value.int .u8 (d : Int)) = some (.int .u8 ((u8 d).toNat : Int)); rw [u8_nat hd]
  | 15, _ => show some (Value.int .u8 (q : Int)) = some (.int .u8 ((u8 q).toNat : Int)); rw [u8_nat hq]
  | n + 16, h => exact absurd h (by omega)
theorem cidr_byt {w : World} {base g ge n : Nat} {e : TypeId} (h : w.ownsRow base e 1 (.slice (some ⟨g, 0, none⟩) 4 4) 4 (cidr n)) (hg : g ≠ ge) : BytF w ge (.slice (some ⟨g, 0, none⟩) 4 4) (cidrB n) := by
  refine ⟨g, 0, 4, rfl, Nat.le_refl _, hg, fun j hj => ?_⟩
  have hj : j < 4 := hj
  rw [Nat.zero_add]
  have key : ∀ x : Nat, x < 256 → (cidr n)[j]? = some (.int .u8 (x : Nat)) → fb (cidrB n) j = (x : Int) → w.cell? ⟨g, j, none⟩ = some (.int .u8 (fb (cidrB n) j)) := fun x _ h1 h2 => by
    have h3 := h.cells (g := g) rfl j _ h1
    rw [add_at] at h3
    rw [h3, h2]
  match j, hj with
  | 0, _ => exact key (mb n) (mb_lt _) rfl (by show ((u8 (mb n)).toNat : Int) = _; rw [u8_nat (mb_lt _)])
  | 1, _ => exact key (mb (n - 8)) (mb_lt _) rfl (by show ((u8 (mb (n - 8))).toNat : Int) = _; rw [u8_nat (mb_lt _)])
  | 2, _ => exact key (mb (n - 16)) (mb_lt _) rfl (by show ((u8 (mb (n - 16))).toNat : Int) = _; rw [u8_nat (mb_lt _)])
  | 3, _ => exact key (mb (n - 24)) (mb_lt _) rfl (by show ((u8 (mb (n - 24))).toNat : Int) = _; rw [u8_nat (mb_lt _)])
theorem four_pre {w : World} {g a b d q : Nat} {t : TypeId} (h : Blk w g t (four16 a b d q)) : ∀ j, j < 12 → w.cell? ⟨g, j, none⟩ = some (.int .u8 (if j < 10 then 0 else 255)) := fun j hj => by
  rw [h.cell j]
  match j, hj with
  | 0, _ | 1, _ | 2, _ | 3, _ | 4, _ | 5, _ | 6, _ | 7, _ | 8, _ | 9, _ | 10, _ | 11, _ => rfl
set_option maxHeartbeats 4000000 in
set_option maxRecDepth 100000 in
theorem networkFor_16 (g c a b d q : Nat) (t : TypeId) (w : World) (hc : 16 ≤ c) (hB : Blk w g t (four16 a b d q)) (ha : a < 256) (hb : b < 256) (hd : d < 256) (hq : q < 256) :
    Calls Tryz.prog 45 #[.slice (some ⟨g, 0, none⟩) 16 c] w (fun e w' => (∃ bb, e = .returned (.pointer (some ⟨bb, 0, none⟩)) ∧ ∀ ge, g ≠ ge → ge < w.heap.size → NetP w' ge (.pointer (some ⟨bb, 0, none⟩)) (netIP [a, b, d, q])) ∧ Ext w w') := by
  have HP : Hid (∀ ge, g ≠ ge → BytF w ge (.slice (some ⟨g, 0, none⟩) 16 c) (preB ++ [a, b, d, q].map u8)) := fun ge hg => four_byt hB hc ha hb hd hq hg
  have HI : Hid (Calls Tryz.prog 78 #[.slice (some ⟨g, 0, none⟩) 16 c] w (fun e w' => e = .returned (.bool true) ∧ Ext w w')) := by
    unfold Hid
    have HT := Lib.hid (To4_16 g 0 c w hc (fun j hj => by rw [Nat.zero_add]; exact four_pre hB j hj))
    go_enter Tryz.func78, Tryz.ntmps78
    go_wp2_with fail
    refine HT.out.mono ?_
    rintro e w1 ⟨⟨c', rfl⟩, hb1⟩
    go_wp2
    go_ret
    exact ⟨rfl, hb1⟩
  clear hB ha hb hd hq
  go_enter Tryz.func45, Tryz.ntmps45
  go_wp2_with fail
  refine HI.out.mono ?_
  rintro e w1 ⟨rfl, hb1⟩
  go_wp2_with fail
  refine (CIDRMask_4 32 w1 (by omega)).mono ?_
  rintro e w2 ⟨⟨rfl, hown⟩, hb2⟩
  have HX2 := Lib.hid (hb1.tr hb2)
  have h1 := hb1.size
  have h2 := hb2.size
  have HM : Hid (∀ ge, ge < w.heap.size → BytF w2 ge (.slice (some ⟨w1.heap.size, 0, none⟩) 4 4) (cidrB 32)) := fun ge hge => cidr_byt (ge := ge) hown (by omega)
  clear hown hb1 hb2
  have hne : ∀ ge, ge < w.heap.size → w2.heap.size ≠ ge := fun ge hge => by omega
  clear h1 h2
  go_wp2
  go_ret
  have HBN : Blk (w2.alloc (.cells #[.slice (some ⟨g, 0, none⟩) 16 c, .slice (some ⟨w1.heap.size, 0, none⟩) 4 4] 88)) w2.heap.size 88 #[.slice (some ⟨g, 0, none⟩) 16 c, .slice (some ⟨w1.heap.size, 0, none⟩) 4 4] := Blk.new _ _ _
  exact ⟨⟨_, rfl, fun ge hg hge => ⟨_, _, _, rfl, hne ge hge, HBN.cell 0, HBN.cell 1, (HP.out ge hg).ext (HX2.out.alloc _), (HM.out ge hge).ext ((Ext.refl w2).alloc _)⟩⟩, HX2.out.alloc _⟩
end Go.Proofs.YtedniebpabfglaaGreatDoor
end
section
namespace Go.Proofs.YtedniebpabfglaaGreatDoor
open Go.RowKit

/-- The first bytes of two, bit by bit. -/
def AndTo (x y : Nat → Nat) (k : Nat) (l : List Value) : Prop := ∀ j, j < k → l[j]? = some (.int .u8 (x j &&& y j : Nat))
theorem AndTo.set_ {x y : Nat → Nat} {k : Nat} {l : List Value} (h : AndTo x y k l) (hl : l.length = 4) (hk : k < 4) : AndTo x y (k + 1) (l.set k (.int .u8 (x k &&& y k : Nat))) := fun j hj => by
  by_cases he : k = j
  · subst he
    rw [List.getElem?_set_self (by omega)]
  · rw [List.getElem?_set_ne he]; exact h j (by omega)
def ands (x y : Nat → Nat) : List Value := [.int .u8 (x 0 &&& y 0 : Nat), .int .u8 (x 1 &&& y 1 : Nat), .int .u8 (x 2 &&& y 2 : Nat), .int .u8 (x 3 &&& y 3 : Nat)]
theorem and_all {x y : Nat → Nat} {l : List Value} (h : AndTo x y 4 l) (hl : l.length = 4) : l = ands x y := by
  match l, hl, h with
  | [a, b, c, d], _, h =>
    have h0 := h 0 (by omega)
    have h1 := h 1 (by omega)
    have h2 := h 2 (by omega)
    have h3 := h 3 (by omega)
    simp at h0 h1 h2 h3
    rw [h0, h1, h2, h3]; rfl
set_option maxHeartbeats 8000000 in
set_option maxRecDepth 100000 in
theorem Mask_16 (zb zo pb po pc g c m mc : Nat) (x y : Nat → Nat) (w : World) (ht : IpTab zb zo pb po pc w) (hc : 16 ≤ c) (hpre : ∀ j, j < 12 → w.cell? ⟨g, j, none⟩ = some (.int .u8 (if j < 10 then 0 else 255)))
    (hx : ∀ j, j < 4 → x j < 256 ∧ w.cell? ⟨g, 12 + j, none⟩ = some (.int .u8 (x j : Nat))) (hy : ∀ j, j < 4 → y j < 256 ∧ w.cell? ⟨m, j, none⟩ = some (.int .u8 (y j : Nat))) :
    Calls Tryz.prog 76 #[.slice (some ⟨g, 0, none⟩) 16 c, .slice (some ⟨m, 0, none⟩) 4 mc] w (fun e w' => (e = .returned (.slice (some ⟨w.heap.size, 0, none⟩) 4 4) ∧ w'.ownsRow w.heap.size 5 1 (.slice (some ⟨w.heap.size, 0, none⟩) 4 4) 4 (ands x y)) ∧ Ext w w') := by
  have HX := Lib.hid hx; have HY := Lib.hid hy
  have HE : Hid (∀ c' n, Calls Tryz.prog 99 #[.slice (some ⟨g, 0, none⟩) 12 c', .slice (some ⟨pb, po, none⟩) 12 pc] (w.drewN n) (fun e w' => e = .returned (.bool true) ∧ w' = w.drewN n)) := fun c' n => Equal_pre g c' pb po pc _ (fun j hj => ((Ext.refl w).drewN n).cell (hpre j hj)) (ht.ext ((Ext.refl w).drewN n)).byte
  have hp := ht.pre
  obtain ⟨i0, hi, hz0, hz1, hz2⟩ := info_parts info_u8
  have hc12 : (12 : Int) ≤ 16 := by decide
  have hcc : (12 : Int) ≤ (c : Int) := by omega
  have hcn : 12 ≤ c := by omega
  clear hx hy hpre ht
  go_enter Tryz.func76, Tryz.ntmps76
  go_wp2
  go_quiet (first | (go_at_call 99; refine Calls.quiet_of_same (HE.out _ _)))
  go_wp2_with (at_make; refine wpList_make_full _ rfl _ _ 59 rfl w.heap.size 5 i0 (.int .u8 0) 1 Tryz.underlying59 hi hz0 hz1 .i64 .i64 4 4 4 rfl rfl rfl rfl (by rw [hz2]; omega) (by unfold maxLen; omega) (Nat.le_refl _) ?_; intro w1 hown hgrow)
  have hx1 : Ext w w1 := ((Ext.refl w).drewN nq).tr (ext_none hgrow)
  rw [made_bytes] at hown
  have HO := Lib.hid hown
  have HX1 := Lib.hid hx1
  clear hgrow hown hx1
  go_loopw [7] (fun i wr => ∃ (k : Nat) (l : List Value), i = .int .i64 k ∧ k ≤ 4 ∧ l.length = 4 ∧ AndTo x y k l ∧ wr.ownsRow w.heap.size 5 1 (.slice (some ⟨w.heap.size, 0, none⟩) 4 4) 4 l ∧ Ext w wr) (fun i _ => 4 - (intOf i).toNat)
  case atStart => exact ⟨0, _, rfl, by omega, by simp, fun j hj => by omega, HO.out, HX1.out⟩
  case round =>
    obtain ⟨k, l, rfl, hk, hl, hat, hown, hb⟩ := hrel
    have HAT := Lib.hid hat; have HOW := Lib.hid hown; have HB := Lib.hid hb
    clear hat hown hb
    by_cases hlt : k < 4
    · have hck : wr.cell? ⟨g, 12 + k, none⟩ = some (.int .u8 (x k : Nat)) := HB.out.cell (HX.out k hlt).2
      have hcm : wr.cell? ⟨m, k, none⟩ = some (.int .u8 (y k : Nat)) := HB.out.cell (HY.out k hlt).2
      have hfr : wr.frozen? ⟨w.heap.size, k, none⟩ = false := HOW.out.frozenAt k
      have hce : wr.cell? ⟨w.heap.size, k, none⟩ = l[k]? := HOW.out.cellAt k (by omega)
      obtain ⟨lk, hlk⟩ : ∃ lk, l[k]? = some lk := ⟨_, List.getElem?_eq_getElem (by omega)⟩
      rw [hlk] at hce
      clear hlk
      have hand : bits .and .u8 ((x k : Nat) : Int) ((y k : Nat) : Int) = ((x k &&& y k : Nat) : Int) := u8_and_nat _ _ (HX.out k hlt).1 (HY.out k hlt).1
      have HST : Hid ((wr.setCell ⟨w.heap.size, k, none⟩ (.int .u8 (x k &&& y k : Nat))).ownsRow w.heap.size 5 1 (.slice (some ⟨w.heap.size, 0, none⟩) 4 4) 4 (l.set k (.int .u8 (x k &&& y k : Nat)))) := (HOW.out.stored k _).1
      go_wp2
      go_region
      go_wp2
      go_roundw
      case rel => exact ⟨k + 1, l.set k (.int .u8 (x k &&& y k : Nat)), by go_num, by omega, by rw [List.length_set]; exact hl, HAT.out.set_ hl hlt, HST.out, Ext.drew (Below.setCell HB.out (by show w.heap.size ≤ w.heap.size; exact Nat.le_refl _) _)⟩
      case measure => simp [intOf]; omega
    · obtain rfl : k = 4 := by omega
      go_wp2
      go_ret
      exact ⟨⟨rfl, by have := HOW.out; rw [and_all HAT.out hl] at this; exact this⟩, HB.out⟩
end Go.Proofs.YtedniebpabfglaaGreatDoor
end
section
namespace Go.Proofs.YtedniebpabfglaaGreatDoor
open Go.RowKit

/-- The net of an address and of how many bits of it count. -/
def netC (l : List Nat) (n : Nat) : Net := { ip := [u8 (l.getD 0 0 &&& mb n), u8 (l.getD 1 0 &&& mb (n - 8)), u8 (l.getD 2 0 &&& mb (n - 16)), u8 (l.getD 3 0 &&& mb (n - 24))], mask := cidrB n }
/-- The net of a text. -/
def netOf (s : List UInt8) : Net := if (Pl.cutAt 47 s).2.2 then netC (Pl.octsV 4 (Pl.cutAt 47 s).1) (Pl.numVal (Pl.cutAt 47 s).2.1) else netIP (Pl.octsV 4 s)
theorem and_byt {w : World} {base g ge : Nat} {e : TypeId} {x y : Nat → Nat} (hx : ∀ j, j < 4 → x j < 256) (h : w.ownsRow base e 1 (.slice (some ⟨g, 0, none⟩) 4 4) 4 (ands x y)) (hg : g ≠ ge) :
    BytF w ge (.slice (some ⟨g, 0, none⟩) 4 4) [u8 (x 0 &&& y 0), u8 (x 1 &&& y 1), u8 (x 2 &&& y 2), u8 (x 3 &&& y 3)] := by
  refine ⟨g, 0, 4, rfl, Nat.le_refl _, hg, fun j hj => ?_⟩
  have hj : j < 4 := hj
  rw [Nat.zero_add]
  have hlt : ∀ j, j < 4 → x j &&& y j < 256 := fun j hj => Nat.lt_of_le_of_lt Nat.and_le_left (hx j hj)
  have key : ∀ z : Nat, z < 256 → (ands x y)[j]? = some (.int .u8 (z : Nat)) → fb [u8 (x 0 &&& y 0), u8 (x 1 &&& y 1), u8 (x 2 &&& y 2), u8 (x 3 &&& y 3)] j = (z : Int) → w.cell? ⟨g, j, none⟩ = some (.int .u8 (fb [u8 (x 0 &&& y 0), u8 (x 1 &&& y 1), u8 (x 2 &&& y 2), u8 (x 3 &&& y 3)] j)) := fun z _ h1 h2 => by
    have h3 := h.cells (g := g) rfl j _ h1
    rw [add_at] at h3
    rw [h3, h2]
  match j, hj with
  | 0, _ => exact key (x 0 &&& y 0) (hlt 0 (by omega)) rfl (by show ((u8 (x 0 &&& y 0)).toNat : Int) = _; rw [u8_nat (hlt 0 (by omega))])
  | 1, _ => exact key (x 1 &&& y 1) (hlt 1 (by omega)) rfl (by show ((u8 (x 1 &&& y 1)).toNat : Int) = _; rw [u8_nat (hlt 1 (by omega))])
  | 2, _ => exact key (x 2 &&& y 2) (hlt 2 (by omega)) rfl (by show ((u8 (x 2 &&& y 2)).toNat : Int) = _; rw [u8_nat (hlt 2 (by omega))])
  | 3, _ => exact key (x 3 &&& y 3) (hlt 3 (by omega)) rfl (by show ((u8 (x 3 &&& y 3)).toNat : Int) = _; rw [u8_nat (hlt 3 (by omega))])
theorem cidr_cells {w : World} {base g n : Nat} {e : TypeId} (h : w.ownsRow base e 1 (.slice (some ⟨g, 0, none⟩) 4 4) 4 (cidr n)) : ∀ j, j < 4 → w.cell? ⟨g, j, none⟩ = some (.int .u8 (mb (n - 8 * j) : Nat)) := fun j hj => by
  have key : (cidr n)[j]? = some (.int .u8 (mb (n - 8 * j) : Nat)) → w.cell? ⟨g, j, none⟩ = some (.int .u8 (mb (n - 8 * j) : Nat)) := fun h1 => by
    have h3 := h.cells (g := g) rfl j _ h1
    rw [add_at] at h3
    exact h3
  match j, hj with
  | 0, _ | 1, _ | 2, _ | 3, _ => exact key rfl
/-- The bytes of an address. -/
def octF (a b d q : Nat) (j : Nat) : Nat := [a, b, d, q].getD j 0
theorem octF_lt {a b d q : Nat} (ha : a < 256) (hb : b < 256) (hd : d < 256) (hq : q < 256) : ∀ j, j < 4 → octF a b d q j < 256 := fun j hj => by
  match j, hj with
  | 0, _ => exact ha
  | 1, _ => exact hb
  | 2, _ => exact hd
  | 3, _ => exact hq
theorem four_oct {w : World} {g a b d q : Nat} {t : TypeId} (h : Blk w g t (four16 a b d q)) : ∀ j, j < 4 → w.cell? ⟨g, 12 + j, none⟩ = some (.int .u8 (octF a b d q j : Nat)) := fun j hj => by
  rw [h.cell (12 + j)]
  match j, hj with
  | 0, _ | 1, _ | 2, _ | 3, _ => rfl
theorem errNew_any (s : ByteArray) (w : World) : Calls Tryz.prog 46 #[.string s] w (fun e w' => (∃ T p, e = .returned (.iface T p)) ∧ Ext w w') := by
  go_enter Tryz.func46, Tryz.ntmps46
  go_wp2
  go_ret
  exact ⟨⟨_, _, rfl⟩, (Ext.refl w).alloc _⟩
set_option maxHeartbeats 4000000 in
set_option maxRecDepth 100000 in
theorem CIDR_no (s : ByteArray) (w : World) (hs : s.size ≤ 2147483647) (hno : (Pl.cutAt 47 (bl s)).2.2 = false) :
    Calls Tryz.prog 43 #[.string s] w (fun e w' => (∃ T p, e = .returned (.tuple #[.slice none 0 0, .pointer none, .iface T p])) ∧ Ext w w') := by
  go_enter Tryz.func43, Tryz.ntmps43
  go_wp2_with fail
  refine (errNew_any _ _).mono ?_
  rintro e w1 ⟨⟨T, p, rfl⟩, hb1⟩
  have HX1 := Lib.hid hb1
  clear hb1
  go_wp2_with fail
  refine (zzCut_any s _ 47 _ hs rfl rfl).mono ?_
  rintro e w2 ⟨ad, bi, rfl, hA, hB, ha, hb, hb2⟩
  rw [hno]
  have HX2 := Lib.hid (HX1.out.tr hb2)
  clear hb2 hA hB
  go_wp2
  go_ret3
  exact ⟨⟨_, _, rfl⟩, HX2.out⟩
set_option maxHeartbeats 8000000 in
set_option maxRecDepth 100000 in
theorem CIDR_yes (zb zo pb po pc : Nat) (s : ByteArray) (w : World) (hs : s.size ≤ 2147483647) (hyes : (Pl.cutAt 47 (bl s)).2.2 = true) (ho : Pl.octsOk 4 (Pl.cutAt 47 (bl s)).1 = true) (hn : Pl.isNum (Pl.cutAt 47 (bl s)).2.1 32 = true) (ht : IpTab zb zo pb po pc w) :
    Calls Tryz.prog 43 #[.string s] w (fun e w' => (∃ v0 bb, e = .returned (.tuple #[v0, .pointer (some ⟨bb, 0, none⟩), .nilIface]) ∧ ∀ ge, ge < w.heap.size → NetP w' ge (.pointer (some ⟨bb, 0, none⟩)) (netC (Pl.octsV 4 (Pl.cutAt 47 (bl s)).1) (Pl.numVal (Pl.cutAt 47 (bl s)).2.1))) ∧ Ext w w') := by
  have HT := Lib.hid ht
  clear ht
  obtain ⟨L, hL⟩ : ∃ L, L = Pl.octsV 4 (Pl.cutAt 47 (bl s)).1 := ⟨_, rfl⟩
  obtain ⟨num, hnum⟩ : ∃ n, n = Pl.numVal (Pl.cutAt 47 (bl s)).2.1 := ⟨_, rfl⟩
  rw [← hL, ← hnum]
  go_enter Tryz.func43, Tryz.ntmps43
  go_wp2_with fail
  refine (errNew_any _ _).mono ?_
  rintro e w1 ⟨⟨T, p, rfl⟩, hb1⟩
  have HX1 := Lib.hid hb1
  clear hb1
  go_wp2_with fail
  refine (zzCut_any s _ 47 _ hs rfl rfl).mono ?_
  rintro e w2 ⟨ad, bi, rfl, hA, hB, ha, hb, hb2⟩
  rw [hyes]
  have HX2 := Lib.hid (HX1.out.tr hb2)
  clear hb2 hyes
  rw [← hA] at ho hL
  rw [← hB] at hn hnum
  clear hA hB
  have HN : Hid (∀ k, k ≤ bi.size → Pl.numVal ((bl bi).take k) ≤ 32) := fun k _ => by
    have h1 := Pl.numVal_mono ((bl bi).take k) ((bl bi).drop k)
    rw [List.take_append_drop] at h1
    exact Nat.le_trans h1 (Pl.isNum_get hn).2.2.2
  have HD : Hid (∀ k, (h : k < bi.size) → 48 ≤ (bi[k].toNat : Int) ∧ (bi[k].toNat : Int) ≤ 57) := fun k h => by
    have h1 := Pl.dig_num ((Pl.isNum_get hn).2.1 _ (List.getElem_mem (by rw [bl_length]; exact h : k < (bl bi).length)))
    rw [bl_get bi k h] at h1
    omega
  have hn32 : num ≤ 32 := by rw [hnum]; exact (Pl.isNum_get hn).2.2.2
  have hbne : 0 < bi.size := by
    have := (Pl.isNum_get hn).1
    rw [← bl_length]
    exact List.length_pos_iff.2 this
  have HNUM := Lib.hid hnum
  clear hn hnum
  go_wp2_with fail
  refine (ParseAddr_ok zb zo pb po pc ad _ (by omega) ho (HT.out.ext HX2.out)).mono ?_
  rintro e w3 ⟨⟨⟨a, b, d, q, ha4, hb4, hd4, hq4, hl⟩, rfl⟩, hb3⟩
  obtain ⟨v, hv⟩ : ∃ v, v = adr (Pl.octsV 4 (bl ad)) := ⟨_, rfl⟩
  have hve : v = 281470681743360 + (a * 16777216 + b * 65536 + d * 256 + q) := by rw [hv, hl]; rfl
  rw [← hv]
  rw [hl] at hL
  have HL := Lib.hid hL; have HVE := Lib.hid hve
  clear hl hve hv hL ho
  have HX3 := Lib.hid (HX2.out.tr hb3)
  clear hb3
  have HBK : Hid (Blk (w3.alloc (.cells #[.int .u64 0, .int .u64 (v : Nat), .pointer (some ⟨zb, zo, none⟩)] 77)) w3.heap.size 77 #[.int .u64 0, .int .u64 (v : Nat), .pointer (some ⟨zb, zo, none⟩)]) := Blk.new _ _ _
  have HX4 : Hid (Ext w (w3.alloc (.cells #[.int .u64 0, .int .u64 (v : Nat), .pointer (some ⟨zb, zo, none⟩)] 77))) := HX3.out.alloc _
  obtain ⟨hne1, hne2⟩ := nonempty_list (s := bi) (fun e => by rw [← bl_length, e] at hbne; exact absurd hbne (by decide))
  go_wp2_with fail
  refine (Zone_4 zb zo pb po pc v _ (HT.out.ext HX4.out)).mono ?_
  rintro e w4 ⟨rfl, hb4'⟩
  have HX5 := Lib.hid (HX4.out.tr hb4')
  have HBK5 := Lib.hid (HBK.out.ext hb4')
  clear hb4' HX4 HBK
  generalize w3.heap.size = B at HBK5 ⊢
  go_wp2
  go_loopw [11, 12] (fun n i wr => ∃ k : Nat, n = .int .i64 (Pl.numVal ((bl bi).take k) : Nat) ∧ i = .int .i64 k ∧ k ≤ bi.size ∧ wr = w4) (fun _ i _ => bi.size - (intOf i).toNat)
  case atStart => exact ⟨0, rfl, rfl, by omega, rfl⟩
  case round =>
    obtain ⟨k, rfl, rfl, hk, rfl⟩ := hrel
    by_cases hlt : k < bi.size
    · obtain ⟨hd0, hd9⟩ := HD.out k hlt
      have hnv : Pl.numVal ((bl bi).take k) ≤ 32 := HN.out k hk
      have HNS : Hid (Pl.numVal ((bl bi).take (k + 1)) = 10 * Pl.numVal ((bl bi).take k) + (bi[k].toNat - 48)) := by
        unfold Hid
        rw [Pl.numVal_take_succ _ k (by rw [bl_length]; exact hlt), bl_get bi k hlt]
      generalize Pl.numVal ((bl bi).take k) = m at hnv HNS ⊢
      have hm1 : ¬ (1000 : Int) < (m : Int) := by omega
      go_wp2
      go_roundw
      case rel => first | exact ⟨k + 1, by rw [HNS.out]; congr 1; omega, by go_num, by omega, rfl⟩ | exact ⟨k + 1, by rw [HNS.out]; congr 1; omega, by go_num, by omega, trivial⟩
      case measure => simp [intOf]; omega
    · obtain rfl : k = bi.size := by omega
      have hfin : Pl.numVal ((bl bi).take bi.size) = num := by rw [HNUM.out, List.take_of_length_le (by rw [bl_length]; omega)]
      rw [hfin]
      clear hfin
      have q0 := HBK5.out.cell 0
      have q1 := HBK5.out.cell 1
      have q2 := HBK5.out.cell 2
      have hn32i : ¬ (32 : Int) < (num : Int) := by omega
      go_wp2_with fail
      refine (BitLen_4 zb zo pb po pc v _ (HT.out.ext HX5.out)).mono ?_
      rintro e w5 ⟨rfl, hb5⟩
      have HX6 := Lib.hid (HX5.out.tr hb5)
      have HBK6 := Lib.hid (HBK5.out.ext hb5)
      clear hb5 q0 q1 q2
      have q0 := HBK6.out.cell 0
      have q1 := HBK6.out.cell 1
      have q2 := HBK6.out.cell 2
      go_wp2_with fail
      refine (BitLen_4 zb zo pb po pc v _ (HT.out.ext HX6.out)).mono ?_
      rintro e w6 ⟨rfl, hb6⟩
      have HX7 := Lib.hid (HX6.out.tr hb6)
      have HBK7 := Lib.hid (HBK6.out.ext hb6)
      clear hb6 q0 q1 q2
      have q0 := HBK7.out.cell 0
      have q1 := HBK7.out.cell 1
      have q2 := HBK7.out.cell 2
      go_wp2_with fail
      refine (CIDRMask_4 num _ hn32).mono ?_
      rintro e w7 ⟨⟨rfl, hown⟩, hb7⟩
      have HX8 := Lib.hid (HX7.out.tr hb7)
      have HBK8 := Lib.hid (HBK7.out.ext hb7)
      have HOW : Hid (∀ ge, ge < w.heap.size → BytF w7 ge (.slice (some ⟨w6.heap.size, 0, none⟩) 4 4) (cidrB num)) := fun ge hge => cidr_byt hown (by have := HX7.out.size; omega)
      have HCC := Lib.hid (cidr_cells hown)
      have HS6 : Hid (w.heap.size ≤ w6.heap.size) := HX7.out.size
      have HE67 := Lib.hid hb7
      clear hb7 q0 q1 q2 hown
      have q0 := HBK8.out.cell 0
      have q1 := HBK8.out.cell 1
      have q2 := HBK8.out.cell 2
      go_wp2_with fail
      refine (As16_4 zb zo v a b d q _ HVE.out ha4 hb4 hd4 hq4).mono ?_
      rintro e w8 ⟨rfl, hb8⟩
      have HX9 := Lib.hid (HX8.out.tr hb8)
      have HOW9 : Hid (∀ ge, ge < w.heap.size → BytF w8 ge (.slice (some ⟨w6.heap.size, 0, none⟩) 4 4) (cidrB num)) := fun ge hge => (HOW.out ge hge).ext hb8
      have HCC9 : Hid (∀ j, j < 4 → w8.cell? ⟨w6.heap.size, j, none⟩ = some (.int .u8 (mb (num - 8 * j) : Nat))) := fun j hj => hb8.cell (HCC.out j hj)
      have HS8 : Hid (w.heap.size ≤ w8.heap.size) := HX9.out.size
      clear hb8 HX8 HBK8 HOW HCC HS6 HE67 q0 q1 q2
      go_wp2
      have HBA : Hid (Blk (w8.alloc (.cells (four16 a b d q) 84)) w8.heap.size 84 (four16 a b d q)) := Blk.new _ _ _
      have HXA : Hid (Ext w8 (w8.alloc (.cells (four16 a b d q) 84))) := (Ext.refl _).alloc _
      generalize hWA : w8.alloc (.cells (four16 a b d q) 84) = wa at HBA HXA ⊢
      generalize hGB : w8.heap.size = gb at HBA HS8 ⊢
      have HM : Hid (∀ wz, Ext wa wz → Calls Tryz.prog 76 #[.slice (some ⟨gb, 0, none⟩) 16 16, .slice (some ⟨w6.heap.size, 0, none⟩) 4 4] wz (fun e w' => (e = .returned (.slice (some ⟨wz.heap.size, 0, none⟩) 4 4) ∧ w'.ownsRow wz.heap.size 5 1 (.slice (some ⟨wz.heap.size, 0, none⟩) 4 4) 4 (ands (octF a b d q) (fun j => mb (num - 8 * j)))) ∧ Ext wz w')) := fun wz hz =>
        Mask_16 zb zo pb po pc gb 16 w6.heap.size 4 (octF a b d q) (fun j => mb (num - 8 * j)) wz (HT.out.ext (HX9.out.tr (HXA.out.tr hz))) (by omega) (four_pre (HBA.out.ext hz)) (fun j hj => ⟨octF_lt ha4 hb4 hd4 hq4 j hj, four_oct (HBA.out.ext hz) j hj⟩) (fun j hj => ⟨mb_lt _, (HXA.out.tr hz).cell (HCC9.out j hj)⟩)
      go_region_with (first | (go_at_call 76; refine (HM.out _ (by first | exact Ext.refl _ | exact (Ext.refl _).drew)).mono ?_; rintro _ w9 ⟨⟨rfl, hm⟩, hb9⟩))
      have HX10 := Lib.hid (HX9.out.tr (HXA.out.tr ((Ext.refl wa).drew.tr hb9)))
      have HOW10 : Hid (∀ ge, ge < w.heap.size → BytF w9 ge (.slice (some ⟨w6.heap.size, 0, none⟩) 4 4) (cidrB num)) := fun ge hge => (HOW9.out ge hge).ext (HXA.out.tr ((Ext.refl wa).drew.tr hb9))
      have HIP : Hid (∀ ge, ge < w.heap.size → BytF w9 ge (.slice (some ⟨wa.drew.heap.size, 0, none⟩) 4 4) (netC L num).ip) := by
        intro ge hge
        rw [HL.out]
        exact and_byt (octF_lt ha4 hb4 hd4 hq4) hm (by have := HX9.out.size; have := HXA.out.size; show wa.heap.size ≠ ge; omega)
      have hne9 : ∀ ge, ge < w.heap.size → w9.heap.size ≠ ge := fun ge hge => by have := HX10.out.size; omega
      have HBN : Hid (Blk (w9.alloc (.cells #[.slice (some ⟨wa.heap.size, 0, none⟩) 4 4, .slice (some ⟨w6.heap.size, 0, none⟩) 4 4] 88)) w9.heap.size 88 #[.slice (some ⟨wa.heap.size, 0, none⟩) 4 4, .slice (some ⟨w6.heap.size, 0, none⟩) 4 4]) := Blk.new _ _ _
      clear hm hb9 HM HCC9
      go_wp2
      go_ret3
      exact ⟨⟨_, _, rfl, fun ge hge => ⟨_, _, _, rfl, hne9 ge hge, HBN.out.cell 0, HBN.out.cell 1, (HIP.out ge hge).ext ((Ext.refl _).alloc _), (HOW10.out ge hge).ext ((Ext.refl _).alloc _)⟩⟩, HX10.out.alloc _⟩
end Go.Proofs.YtedniebpabfglaaGreatDoor
end
