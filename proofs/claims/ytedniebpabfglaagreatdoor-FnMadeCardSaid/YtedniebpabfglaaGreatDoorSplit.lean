/- The walks of net.ParseIP at texts of letters, digits and dots that begin with no digit: nil. The walk of zzSplitSANs at one name. -/
import Derived.Test.YtedniebpabfglaaGreatDoorUrl
import Derived.Laws.CopyOwn
section
namespace Go.Proofs.YtedniebpabfglaaGreatDoor
open Go.RowKit

/-- Letters, digits and dots; no digit first. -/
structure NoIP (s : ByteArray) : Prop where
  nc : ∀ x ∈ bl s, Pl.isNC x = true
  head : ∀ h : 0 < s.size, Pl.isLet s[0] = true ∨ s[0] = 46
  size : s.size ≤ 1000
theorem NoIP.at_ {s : ByteArray} (h : NoIP s) (j : Nat) (hj : j < s.size) : Pl.isNC s[j] = true := by
  have := h.nc (bl s)[j] (List.getElem_mem (by rw [bl_length]; exact hj))
  rw [bl_get s j hj] at this
  exact this
theorem noip_name {s : ByteArray} (h : Pl.isName (bl s) = true) : NoIP s := by
  have hb := bare_name h
  exact ⟨hb.nc, fun h0 => .inl (hb.head h0), by have := hb.size; omega⟩
set_option maxHeartbeats 4000000 in
set_option maxRecDepth 100000 in
theorem parse4f_bad (s : ByteArray) (v : Value) (w : World) (h0 : 0 < s.size) (hl : Pl.isLet s[0] = true ∨ s[0] = 46) (hs : s.size ≤ 1000) :
    Calls Tryz.prog 119 #[.string s, .int .i64 0, .int .i64 s.size, v] w (fun e w' => ∃ T p, e = .returned (.iface T p) ∧ w' = w) := by
  have hcl : ((65 ≤ ((s[0]).toNat : Int) ∧ ((s[0]).toNat : Int) ≤ 90) ∨ (97 ≤ ((s[0]).toNat : Int) ∧ ((s[0]).toNat : Int) ≤ 122)) ∨ ((s[0]).toNat : Int) = 46 := by
    rcases hl with hl | hl
    · left
      unfold Pl.isLet at hl
      simp only [Bool.or_eq_true, Bool.and_eq_true, decide_eq_true_eq] at hl
      omega
    · right; rw [hl]; rfl
  have hext : s.extract 0 s.size = s := eq_of_bl (by rw [bl_extract, List.drop_zero, Nat.sub_zero, ← bl_length, List.take_length])
  have hlt : (0 : Int) < (s.size : Int) := by omega
  clear hl
  rcases hcl with h | h
  · have g48 : (48 : Int) ≤ ((s[0]).toNat : Int) := by omega
    have l57 : ¬ ((s[0]).toNat : Int) ≤ 57 := by omega
    have e46 : (((s[0]).toNat : Int) == 46) = false := by rw [beq_eq_false_iff_ne]; omega
    clear h
    go_enter Tryz.func119, Tryz.ntmps119
    go_wp2
    go_loopw [9, 10, 11, 13] (fun a b c i wr => a = .int .i64 0 ∧ b = .int .i64 0 ∧ c = .int .i64 0 ∧ i = .int .i64 0 ∧ wr = w) (fun _ _ _ _ _ => 0)
    case atStart => exact ⟨rfl, rfl, rfl, rfl, rfl⟩
    case round =>
      obtain ⟨rfl, rfl, rfl, rfl, rfl⟩ := hrel
      go_wp2
      go_ret
      exact ⟨_, _, rfl, rfl⟩
  · have g48 : ¬ (48 : Int) ≤ ((s[0]).toNat : Int) := by omega
    have e46 : (((s[0]).toNat : Int) == 46) = true := by rw [beq_iff_eq]; omega
    clear h
    go_enter Tryz.func119, Tryz.ntmps119
    go_wp2
    go_loopw [9, 10, 11, 13] (fun a b c i wr => a = .int .i64 0 ∧ b = .int .i64 0 ∧ c = .int .i64 0 ∧ i = .int .i64 0 ∧ wr = w) (fun _ _ _ _ _ => 0)
    case atStart => exact ⟨rfl, rfl, rfl, rfl, rfl⟩
    case round =>
      obtain ⟨rfl, rfl, rfl, rfl, rfl⟩ := hrel
      go_wp2
      go_ret
      first | exact ⟨_, _, rfl, rfl⟩ | exact ⟨⟨_, _, rfl⟩, rfl⟩
abbrev zAddr : Value := .agg #[.int .u64 0, .int .u64 0, .pointer none]
def NoAddr (w : World) (e : Ending) (w' : World) : Prop := ∃ T p, e = .returned (.tuple #[zAddr, .iface T p]) ∧ Ext w w'
set_option maxHeartbeats 4000000 in
set_option maxRecDepth 100000 in
theorem parse4_bad (s : ByteArray) (w : World) (h0 : 0 < s.size) (hl : Pl.isLet s[0] = true ∨ s[0] = 46) (hs : s.size ≤ 1000) :
    Calls Tryz.prog 94 #[.string s] w (NoAddr w) := by
  have HH := Lib.hid (fun (v : Value) (w' : World) => parse4f_bad s v w' h0 hl hs)
  clear hl
  go_enter Tryz.func94, Tryz.ntmps94
  go_wp2_with fail
  refine (HH.out _ _).mono ?_
  rintro e _ ⟨T, p, rfl, rfl⟩
  have HX : Hid (Ext w ((w.alloc (.cells #[.int .u64 0, .int .u64 0, .pointer none] 77)).alloc (.cells #[.int .u8 0, .int .u8 0, .int .u8 0, .int .u8 0] 143))) := ((Ext.refl w).alloc _).alloc _
  have HBK : Hid (Blk ((w.alloc (.cells #[.int .u64 0, .int .u64 0, .pointer none] 77)).alloc (.cells #[.int .u8 0, .int .u8 0, .int .u8 0, .int .u8 0] 143)) w.heap.size 77 #[.int .u64 0, .int .u64 0, .pointer none]) := (Blk.new _ _ _).alloc _
  go_wp2
  have q0 := HBK.out.cell 0
  have q1 := HBK.out.cell 1
  have q2 := HBK.out.cell 2
  refine bodyPost_ret (v := .tuple #[zAddr, .iface T p]) (by simp [results, Tryz.results94, go_sem, q0, q1, q2]) rfl ⟨T, p, rfl, HX.out⟩
set_option maxHeartbeats 4000000 in
set_option maxRecDepth 100000 in
theorem ParseAddr_bad (s : ByteArray) (w : World) (hb : NoIP s) (h0 : 0 < s.size) :
    Calls Tryz.prog 71 #[.string s] w (NoAddr w) := by
  have HB := Lib.hid hb
  have hsz := hb.size
  have HH : Hid (∀ w', Calls Tryz.prog 94 #[.string s] w' (NoAddr w')) := fun w' => parse4_bad s w' h0 (hb.head h0) hb.size
  clear hb
  have HX : Hid (Ext w (w.alloc (.cells #[.int .u64 0, .int .u64 0, .pointer none] 77))) := (Ext.refl w).alloc _
  have HBK : Hid (Blk (w.alloc (.cells #[.int .u64 0, .int .u64 0, .pointer none] 77)) w.heap.size 77 #[.int .u64 0, .int .u64 0, .pointer none]) := Blk.new _ _ _
  go_enter Tryz.func71, Tryz.ntmps71
  go_wp2
  generalize w.alloc (.cells #[.int .u64 0, .int .u64 0, .pointer none] 77) = w1 at HX HBK ⊢
  generalize hB : w.heap.size = B at HBK ⊢
  go_loopw [4, 14, 20, 26] (fun i _ _ _ wr => ∃ j : Nat, i = .int .i64 j ∧ j ≤ s.size ∧ wr = w1) (fun i _ _ _ _ => s.size - (intOf i).toNat)
  case atStart => exact ⟨0, rfl, by omega, rfl⟩
  case round =>
    obtain ⟨j, rfl, hj, rfl⟩ := hrel
    have q0 := HBK.out.cell 0
    have q1 := HBK.out.cell 1
    have q2 := HBK.out.cell 2
    by_cases hlt : j < s.size
    · have hcl := nc_class s[j] (HB.out.at_ j hlt)
      rcases (show ((s[j].toNat : Int) = 46) ∨ ((s[j].toNat : Int) ≠ 46 ∧ (s[j].toNat : Int) ≠ 58 ∧ (s[j].toNat : Int) ≠ 37) by omega) with h | ⟨g1, g2, g3⟩
      · have e46 : (((s[j]).toNat : Int) == 46) = true := by rw [beq_iff_eq]; exact h
        clear hcl h q0 q1 q2
        go_wp2_with fail
        refine (HH.out _).mono ?_
        rintro e w2 ⟨T, p, rfl, hb2⟩
        have HX2 := Lib.hid (HX.out.tr hb2)
        have HB2 := Lib.hid (HBK.out.ext hb2)
        clear hb2
        have q0 := HB2.out.cell 0
        have q1 := HB2.out.cell 1
        have q2 := HB2.out.cell 2
        have f0 := HB2.out.frozen 0
        have f1 := HB2.out.frozen 1
        have f2 := HB2.out.frozen 2
        have HE2 : Hid (Blk (((w2.setCell ⟨B, 0, none⟩ (.int .u64 0)).setCell ⟨B, 1, none⟩ (.int .u64 0)).setCell ⟨B, 2, none⟩ (.pointer none)) B 77 #[.int .u64 0, .int .u64 0, .pointer none]) := ((HB2.out.set_ 0 _).set_ 1 _).set_ 2 _
        have HXE : Hid (Ext w (((w2.setCell ⟨B, 0, none⟩ (.int .u64 0)).setCell ⟨B, 1, none⟩ (.int .u64 0)).setCell ⟨B, 2, none⟩ (.pointer none))) :=
          Below.setCell (Below.setCell (Below.setCell HX2.out (by rw [hB]; exact Nat.le_refl _) _) (by rw [hB]; exact Nat.le_refl _) _) (by rw [hB]; exact Nat.le_refl _) _
        go_wp2
        have r0 := HE2.out.cell 0
        have r1 := HE2.out.cell 1
        have r2 := HE2.out.cell 2
        generalize (((w2.setCell ⟨B, 0, none⟩ (.int .u64 0)).setCell ⟨B, 1, none⟩ (.int .u64 0)).setCell ⟨B, 2, none⟩ (.pointer none)) = wE at HXE r0 r1 r2 ⊢
        refine bodyPost_ret (v := .tuple #[zAddr, .iface T p]) (by simp [results, Tryz.results71, go_sem, r0, r1, r2]) rfl ⟨T, p, rfl, HXE.out⟩
      · have e46 : (((s[j]).toNat : Int) == 46) = false := by rw [beq_eq_false_iff_ne]; exact g1
        have e58 : (((s[j]).toNat : Int) == 58) = false := by rw [beq_eq_false_iff_ne]; exact g2
        have e37 : (((s[j]).toNat : Int) == 37) = false := by rw [beq_eq_false_iff_ne]; exact g3
        clear hcl g1 g2 g3 q0 q1 q2
        go_wp2
        go_roundw
        case rel => first | exact ⟨j + 1, by go_num, by omega, rfl⟩ | exact ⟨j + 1, by go_num, by omega, trivial⟩
        case measure => simp [intOf]; omega
    · have f0 := HBK.out.frozen 0
      have f1 := HBK.out.frozen 1
      have f2 := HBK.out.frozen 2
      have HE2 : Hid (Blk (((wr.setCell ⟨B, 0, none⟩ (.int .u64 0)).setCell ⟨B, 1, none⟩ (.int .u64 0)).setCell ⟨B, 2, none⟩ (.pointer none)) B 77 #[.int .u64 0, .int .u64 0, .pointer none]) := ((HBK.out.set_ 0 _).set_ 1 _).set_ 2 _
      have HXE : Hid (Ext w (((wr.setCell ⟨B, 0, none⟩ (.int .u64 0)).setCell ⟨B, 1, none⟩ (.int .u64 0)).setCell ⟨B, 2, none⟩ (.pointer none))) :=
        Below.setCell (Below.setCell (Below.setCell HX.out (by rw [hB]; exact Nat.le_refl _) _) (by rw [hB]; exact Nat.le_refl _) _) (by rw [hB]; exact Nat.le_refl _) _
      go_wp2
      have r0 := HE2.out.cell 0
      have r1 := HE2.out.cell 1
      have r2 := HE2.out.cell 2
      generalize (((wr.setCell ⟨B, 0, none⟩ (.int .u64 0)).setCell ⟨B, 1, none⟩ (.int .u64 0)).setCell ⟨B, 2, none⟩ (.pointer none)) = wE at HXE r0 r1 r2 ⊢
      refine bodyPost_ret (v := .tuple #[zAddr, .iface _ _]) (by simp [results, Tryz.results71, go_sem, r0, r1, r2]; exact ⟨rfl, rfl⟩) rfl ⟨_, _, rfl, HXE.out⟩
/-- Sixteen zeros. -/
abbrev z16 : Array Value := #[.int .u8 0, .int .u8 0, .int .u8 0, .int .u8 0, .int .u8 0, .int .u8 0, .int .u8 0, .int .u8 0, .int .u8 0, .int .u8 0, .int .u8 0, .int .u8 0, .int .u8 0, .int .u8 0, .int .u8 0, .int .u8 0]
theorem Blk.row {w : World} {g : Nat} {t : TypeId} {cs : Array Value} (h : Blk w g t cs) (cs2 : Array Value) : Blk (w.setRow g cs2) g t cs2 := setRow_heap w g cs cs2 t (0, 0) h
theorem Ext.row {a b : World} (h : Ext a b) {g : Nat} (hg : a.heap.size ≤ g) (cs : Array Value) : Ext a (b.setRow g cs) := below_setRow h hg cs
theorem one16 : z16.all (·.oneCell') = true := by simp [Value.oneCell']
theorem size16 : (Tryz.prog.info? 84).map (·.size) = some 16 := by kernel_rfl
set_option maxHeartbeats 4000000 in
set_option maxRecDepth 100000 in
theorem parseIP_bad (s : ByteArray) (w : World) (hb : NoIP s) (h0 : 0 < s.size) :
    Calls Tryz.prog 77 #[.string s] w (fun e w' => e = .returned (.tuple #[.agg z16, .bool false]) ∧ Ext w w') := by
  have HH := Lib.hid (fun (w' : World) => ParseAddr_bad s w' hb h0)
  clear hb
  have HX0 : Hid (Ext w (w.alloc (.cells z16 84))) := (Ext.refl w).alloc _
  have HB0 : Hid (Blk (w.alloc (.cells z16 84)) w.heap.size 84 z16) := Blk.new _ _ _
  go_enter Tryz.func77, Tryz.ntmps77
  go_wp2_with fail
  refine (HH.out _).mono ?_
  rintro e w2 ⟨T, p, rfl, hb2⟩
  have HX2 := Lib.hid (HX0.out.tr hb2)
  have HB2 := Lib.hid (HB0.out.ext hb2)
  clear hb2 HX0 HB0
  go_wp2_with (refine wpList_store_row rfl 84 _ _ rfl w.heap.size z16 rfl rfl 84 z16 (HB2.out.alloc _) size16 rfl one16 ?_)
  have HX3 : Hid (Ext w ((w2.alloc (.cells #[.int .u64 0, .int .u64 0, .pointer none] 77)).setRow w.heap.size z16)) := (HX2.out.alloc _).row (Nat.le_refl _) _
  have HB3 : Hid (Blk ((w2.alloc (.cells #[.int .u64 0, .int .u64 0, .pointer none] 77)).setRow w.heap.size z16) w.heap.size 84 z16) := (HB2.out.alloc _).row _
  generalize (w2.alloc (.cells #[.int .u64 0, .int .u64 0, .pointer none] 77)).setRow w.heap.size z16 = w3 at HX3 HB3 ⊢
  have hr := run_loadVar_row (P := Tryz.prog) w3 w.heap.size 84 84 z16 (0, 0) _ HB3.out Tryz.underlying84 rfl size16
  refine bodyPost_ret (v := .tuple #[.agg z16, .bool false]) (by simp [results, Tryz.results77, asAddr, hr]) rfl ⟨rfl, HX3.out⟩
set_option maxHeartbeats 4000000 in
set_option maxRecDepth 100000 in
theorem ParseIP_bad (s : ByteArray) (w : World) (hb : NoIP s) (h0 : 0 < s.size) :
    Calls Tryz.prog 44 #[.string s] w (fun e w' => e = .returned (.slice none 0 0) ∧ Ext w w') := by
  have HH := Lib.hid (parseIP_bad s w hb h0)
  clear hb
  go_enter Tryz.func44, Tryz.ntmps44
  go_wp2_with fail
  refine HH.out.mono ?_
  rintro e w1 ⟨rfl, hb1⟩
  have HX1 := Lib.hid hb1
  clear hb1
  have HB1 : Hid (Blk (w1.alloc (.cells z16 84)) w1.heap.size 84 z16) := Blk.new _ _ _
  have HX2 : Hid (Ext w ((w1.alloc (.cells z16 84)).setRow w1.heap.size z16)) := (HX1.out.alloc _).row HX1.out.size _
  go_wp2_with (refine wpList_store_row rfl 84 _ _ rfl w1.heap.size z16 rfl rfl 84 z16 HB1.out size16 rfl one16 ?_)
  go_ret
  exact ⟨rfl, HX2.out⟩
end Go.Proofs.YtedniebpabfglaaGreatDoor
end
section
namespace Go.Proofs.YtedniebpabfglaaGreatDoor
open Go.RowKit

def SplitPost (x : ByteArray) (w : World) (e : Ending) (w' : World) : Prop := ∃ A c, e = .returned (.tuple #[.slice A 1 c, .slice none 0 0, .slice none 0 0, .slice none 0 0]) ∧ RdS w' A 1 [x] ∧ Ext w w'
theorem at_none {w : World} {base : Nat} {e : TypeId} : w.ownsRow base e 1 (.slice none 0 0) 0 [] := ⟨rfl, .inl ⟨rfl, rfl⟩⟩
end Go.Proofs.YtedniebpabfglaaGreatDoor
end
