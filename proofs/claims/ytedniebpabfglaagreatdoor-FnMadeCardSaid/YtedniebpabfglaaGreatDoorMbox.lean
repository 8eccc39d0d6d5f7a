/- The walk of parseRFC2821Mailbox at mails of a box of one label. -/
import Derived.Test.YtedniebpabfglaaGreatDoorNormD
import Derived.Test.YtedniebpabfglaaGreatDoorOpts
import Derived.Test.YtedniebpabfglaaGreatDoorUrl
import Derived.OwnWalk
import Derived.WalkMore
import Derived.Deep.Cut
namespace Go.Proofs.YtedniebpabfglaaGreatDoor
open Go.RowKit

theorem at_0 {w : World} {base : Nat} {e : TypeId} : w.ownsRow base e 1 (.slice none 0 0) 0 [] := ⟨rfl, .inl ⟨rfl, rfl⟩⟩
theorem ld_class (c : UInt8) (h : Pl.isLD c = true) : (65 ≤ (c.toNat : Int) ∧ (c.toNat : Int) ≤ 90) ∨ (97 ≤ (c.toNat : Int) ∧ (c.toNat : Int) ≤ 122) ∨ (48 ≤ (c.toNat : Int) ∧ (c.toNat : Int) ≤ 57) := by
  unfold Pl.isLD Pl.isLet Pl.isDig at h
  simp only [Bool.or_eq_true, Bool.and_eq_true, decide_eq_true_eq] at h
  omega
set_option maxHeartbeats 8000000 in
set_option maxRecDepth 100000 in
theorem Mbox_any (s bx ho : ByteArray) (w : World) (hs : bl s = bl bx ++ 64 :: bl ho) (hb : Pl.okLab (bl bx) = true) (hh : Pl.isName (bl ho) = true) :
    Calls Tryz.prog 80 #[.string s] w (fun e w' => e = .returned (.tuple #[.agg #[.string bx, .string ho], .bool true]) ∧ Ext w w') := by
  obtain ⟨i0, hi, hz0, hz1, hz2⟩ := info_parts info_u8
  have hbl : bx.size ≤ 10 := by rw [← bl_length]; exact Pl.okLab_len hb
  have hhl : ho.size ≤ 43 := by rw [← bl_length]; exact Pl.name_len hh
  have hb0 : 0 < bx.size := by
    have := Pl.okLab_nil hb
    rw [← bl_length]
    exact List.length_pos_iff.2 this
  have hsz : s.size = bx.size + 1 + ho.size := by
    have := bl_length s
    rw [hs, List.length_append, List.length_cons, bl_length, bl_length] at this
    omega
  have hne := nonempty_list (s := s) (by rw [hs]; simp)
  obtain ⟨hne1, hne2⟩ := hne
  have hLD : ∀ x ∈ bl bx, Pl.isLD x = true := Pl.okLab_all hb
  have hget : ∀ k (h : k < bx.size) (h2 : k < s.size), s[k] = bx[k] := by
    intro k h h2
    have e1 := bl_get s k h2
    have e2 := bl_get bx k h
    rw [← e1, ← e2]
    simp only [hs]
    rw [List.getElem_append_left (by rw [bl_length]; exact h)]
  have hat : ∀ h2 : bx.size < s.size, s[bx.size] = 64 := by
    intro h2
    have e1 := bl_get s bx.size h2
    rw [← e1]
    simp only [hs]
    rw [List.getElem_append_right (by rw [bl_length]; exact Nat.le_refl _)]
    simp
  have hs0 : 0 < s.size := by omega
  have hq34 : (((s[0]'hs0).toNat : Int) == 34) = false := by
    have h1 := hget 0 hb0 hs0
    have h2 := hLD (bx[0]'hb0) (by rw [← bl_get bx 0 hb0]; exact List.getElem_mem (by rw [bl_length]; exact hb0))
    rw [h1, beq_eq_false_iff_ne]
    have := ld_class _ h2
    omega
  have HS := Lib.hid hs; have HLD := Lib.hid hLD; have HG := Lib.hid hget; have HAT := Lib.hid hat; have HN := Lib.hid hh; have HOK := Lib.hid hb; have HSZ := Lib.hid hsz
  have hszs : s.size ≤ 60 := by omega
  clear hs hLD hget hat hh hb hsz
  have HB0 : Hid (Blk (w.alloc (.cells #[.string ⟨#[]⟩, .string ⟨#[]⟩] 96)) w.heap.size 96 #[.string ⟨#[]⟩, .string ⟨#[]⟩]) := Blk.new _ _ _
  have HX0 : Hid (Ext w (w.alloc (.cells #[.string ⟨#[]⟩, .string ⟨#[]⟩] 96))) := (Ext.refl w).alloc _
  go_enter Tryz.func80, Tryz.ntmps80
  simp only [List.append_eq, List.cons_append, List.nil_append]
  go_wp2_with (at_make; refine wpList_make_own _ rfl _ (.tmp 14) 53 rfl (w.heap.size + 1) 5 i0 (.int .u8 0) 1 Tryz.underlying53 hi hz0 hz1 .i64 .i64 _ (s.size / 2) rfl rfl (by go_num) (by rw [hz2]; omega) (by unfold maxLen; omega) (by simp) ?_; intro w1 hown hgrow; have HO1 := Lib.hid hown; have HX1 := Lib.hid (ext_none hgrow); clear hown hgrow)
  have hw1 : w.heap.size + 1 ≤ w1.heap.size := by have := HX1.out.size; simpa using this
  go_wp2
  go_step3
  go_wp2
  go_step3
  go_wp2
  go_loopw [0, 4] (fun r0 v wr => ∃ (k : Nat) (u : ByteArray), r0 = .string u ∧ bl u = (bl s).drop k ∧ k ≤ bx.size ∧ wr.ownsRow (w.heap.size + 1) 5 1 v k (bys ((bl bx).take k)) ∧ w.heap.size + 1 ≤ wr.heap.size ∧ Ext (w.alloc (.cells #[.string ⟨#[]⟩, .string ⟨#[]⟩] 96)) wr) (fun r0 _ _ => strSize r0)
  case atStart => exact ⟨0, s, rfl, rfl, by omega, by simpa [bys] using HO1.out, hw1, HX1.out⟩
  case round =>
    obtain ⟨k, u, rfl, hu, hk, hown, hws, hb⟩ := hrel
    have husz : u.size = s.size - k := by rw [← bl_length, hu, List.length_drop, bl_length]
    have hu0 : 0 < u.size := by have := HSZ.out; omega
    obtain ⟨hue1, hue2⟩ := nonempty_list (s := u) (by rw [hu]; intro e; have := congrArg List.length e; simp at this; have := HSZ.out; omega)
    have hug : u[0] = s[k]'(by have := HSZ.out; omega) := by
      have e1 := bl_get u 0 hu0
      have e2 := bl_get s k (by have := HSZ.out; omega)
      rw [← e1, ← e2]
      simp only [hu, List.getElem_drop]
      rfl
    have HU := Lib.hid hu; have HUS := Lib.hid husz; clear hu husz
    by_cases hlt : k < bx.size
    · have hbk : s[k]'(by have := HSZ.out; omega) = bx[k] := HG.out k hlt _
      have hcl := ld_class u[0] (by rw [hug, hbk, ← bl_get bx k hlt]; exact HLD.out _ (List.getElem_mem (by rw [bl_length]; exact hlt)))
      have hkl : k < (bl bx).length := by rw [bl_length]; exact hlt
      have HE : Hid (bys ((bl bx).take (k + 1)) = bys ((bl bx).take k) ++ [.int .u8 (u[0].toNat : Int)]) := by
        unfold Hid
        rw [List.take_succ_eq_append_getElem hkl, bys_snoc, bl_get bx k hlt, hug, hbk]
      have h92 : ((u[0].toNat : Int) == 92) = false := by rw [beq_eq_false_iff_ne]; omega
      rcases hcl with hc | hc | hc
      · have hf0 : (48 : Int) ≤ (u[0].toNat : Int) := by omega
        have hf1 : decide ((u[0].toNat : Int) ≤ 57) = false := decide_eq_false (by omega)
        have hf2 : decide ((97 : Int) ≤ (u[0].toNat : Int)) = false := decide_eq_false (by omega)
        have hf3 : (65 : Int) ≤ (u[0].toNat : Int) := by omega
        have hf4 : (u[0].toNat : Int) ≤ 90 := by omega
        clear hc hug hbk
        go_wp2_with (at_builtin; refine wpList_append_own _ rfl (.tmp 244) (.tmp 247) 53 rfl (w.heap.size + 1) 5 i0 (.int .u8 0) 1 1 Tryz.underlying53 hi hz0 hz1 hz2 rfl (by decide) _ _ _ rfl (hown.alloc _) ⟨wr.heap.size, 0, none⟩ 1 1 [.int .u8 (u[0].toNat : Int)] rfl rfl (one_new _ _ _) (by intro v hv; simp at hv; subst hv; rfl) (by unfold maxLen; omega) (by omega) (by simp; omega) ?_; intro v' w2 hown' hgrow _)
        go_roundw
        case rel => exact ⟨k + 1, u.extract 1 u.size, rfl, by rw [bl_extract, HU.out, List.drop_drop, List.take_of_length_le (by rw [List.length_drop, bl_length, HUS.out]; omega)], by omega, by rw [HE.out]; exact hown', by have := hgrow.size; simp at this; omega, (hb.alloc _).grown hgrow (by have := hb.size; simp at this; simp; omega) (fun j hj => by have := own_lo hown j hj; simpa using this)⟩
        case measure => simp [strSize]; first | omega | exact hu0
      · have hf0 : (48 : Int) ≤ (u[0].toNat : Int) := by omega
        have hf1 : decide ((u[0].toNat : Int) ≤ 57) = false := decide_eq_false (by omega)
        have hf2 : (97 : Int) ≤ (u[0].toNat : Int) := by omega
        have hf3 : (u[0].toNat : Int) ≤ 122 := by omega
        clear hc hug hbk
        go_wp2_with (at_builtin; refine wpList_append_own _ rfl (.tmp 244) (.tmp 247) 53 rfl (w.heap.size + 1) 5 i0 (.int .u8 0) 1 1 Tryz.underlying53 hi hz0 hz1 hz2 rfl (by decide) _ _ _ rfl (hown.alloc _) ⟨wr.heap.size, 0, none⟩ 1 1 [.int .u8 (u[0].toNat : Int)] rfl rfl (one_new _ _ _) (by intro v hv; simp at hv; subst hv; rfl) (by unfold maxLen; omega) (by omega) (by simp; omega) ?_; intro v' w2 hown' hgrow _)
        go_roundw
        case rel => exact ⟨k + 1, u.extract 1 u.size, rfl, by rw [bl_extract, HU.out, List.drop_drop, List.take_of_length_le (by rw [List.length_drop, bl_length, HUS.out]; omega)], by omega, by rw [HE.out]; exact hown', by have := hgrow.size; simp at this; omega, (hb.alloc _).grown hgrow (by have := hb.size; simp at this; simp; omega) (fun j hj => by have := own_lo hown j hj; simpa using this)⟩
        case measure => simp [strSize]; first | omega | exact hu0
      · have hf0 : (48 : Int) ≤ (u[0].toNat : Int) := by omega
        have hf1 : (u[0].toNat : Int) ≤ 57 := by omega
        clear hc hug hbk
        go_wp2_with (at_builtin; refine wpList_append_own _ rfl (.tmp 244) (.tmp 247) 53 rfl (w.heap.size + 1) 5 i0 (.int .u8 0) 1 1 Tryz.underlying53 hi hz0 hz1 hz2 rfl (by decide) _ _ _ rfl (hown.alloc _) ⟨wr.heap.size, 0, none⟩ 1 1 [.int .u8 (u[0].toNat : Int)] rfl rfl (one_new _ _ _) (by intro v hv; simp at hv; subst hv; rfl) (by unfold maxLen; omega) (by omega) (by simp; omega) ?_; intro v' w2 hown' hgrow _)
        go_roundw
        case rel => exact ⟨k + 1, u.extract 1 u.size, rfl, by rw [bl_extract, HU.out, List.drop_drop, List.take_of_length_le (by rw [List.length_drop, bl_length, HUS.out]; omega)], by omega, by rw [HE.out]; exact hown', by have := hgrow.size; simp at this; omega, (hb.alloc _).grown hgrow (by have := hb.size; simp at this; simp; omega) (fun j hj => by have := own_lo hown j hj; simpa using this)⟩
        case measure => simp [strSize]; first | omega | exact hu0
    · obtain rfl : k = bx.size := by omega
      have h64 : (u[0].toNat : Int) = 64 := by rw [hug, HAT.out]; rfl
      have hf0 : (48 : Int) ≤ (u[0].toNat : Int) := by omega
      have hf1 : decide ((u[0].toNat : Int) ≤ 57) = false := decide_eq_false (by omega)
      have hf2 : decide ((97 : Int) ≤ (u[0].toNat : Int)) = false := decide_eq_false (by omega)
      have hf3 : decide ((65 : Int) ≤ (u[0].toNat : Int)) = false := decide_eq_false (by omega)
      have hf4 : ((u[0].toNat : Int) == 92) = false := by rw [beq_eq_false_iff_ne]; omega
      have hf5 : ((u[0].toNat : Int) == 33) = false := by rw [beq_eq_false_iff_ne]; omega
      have hf6 : ((u[0].toNat : Int) == 35) = false := by rw [beq_eq_false_iff_ne]; omega
      have hf7 : ((u[0].toNat : Int) == 36) = false := by rw [beq_eq_false_iff_ne]; omega
      have hf8 : ((u[0].toNat : Int) == 37) = false := by rw [beq_eq_false_iff_ne]; omega
      have hf9 : ((u[0].toNat : Int) == 38) = false := by rw [beq_eq_false_iff_ne]; omega
      have hf10 : ((u[0].toNat : Int) == 39) = false := by rw [beq_eq_false_iff_ne]; omega
      have hf11 : ((u[0].toNat : Int) == 42) = false := by rw [beq_eq_false_iff_ne]; omega
      have hf12 : ((u[0].toNat : Int) == 43) = false := by rw [beq_eq_false_iff_ne]; omega
      have hf13 : ((u[0].toNat : Int) == 45) = false := by rw [beq_eq_false_iff_ne]; omega
      have hf14 : ((u[0].toNat : Int) == 47) = false := by rw [beq_eq_false_iff_ne]; omega
      have hf15 : ((u[0].toNat : Int) == 61) = false := by rw [beq_eq_false_iff_ne]; omega
      have hf16 : ((u[0].toNat : Int) == 63) = false := by rw [beq_eq_false_iff_ne]; omega
      have hf17 : ((u[0].toNat : Int) == 94) = false := by rw [beq_eq_false_iff_ne]; omega
      have hf18 : ((u[0].toNat : Int) == 95) = false := by rw [beq_eq_false_iff_ne]; omega
      have hf19 : ((u[0].toNat : Int) == 96) = false := by rw [beq_eq_false_iff_ne]; omega
      have hf20 : ((u[0].toNat : Int) == 123) = false := by rw [beq_eq_false_iff_ne]; omega
      have hf21 : ((u[0].toNat : Int) == 124) = false := by rw [beq_eq_false_iff_ne]; omega
      have hf22 : ((u[0].toNat : Int) == 125) = false := by rw [beq_eq_false_iff_ne]; omega
      have hf23 : ((u[0].toNat : Int) == 126) = false := by rw [beq_eq_false_iff_ne]; omega
      have hf24 : ((u[0].toNat : Int) == 46) = false := by rw [beq_eq_false_iff_ne]; omega
      have h65 : ((u[0].toNat : Int) != 64) = false := by rw [h64]; rfl
      rw [List.take_of_length_le (by rw [bl_length]; omega)] at hown
      obtain ⟨g, cap, rfl, hcap, hcm⟩ := hown.form hb0
      have hcell := own_bytes hown
      have HCE := Lib.hid hcell
      have hcl0 := hcell 0 hb0
      have hcl1 := hcell (bx.size - 1) (by omega)
      have hnd : ∀ j, j < bx.size → (fb (bl bx) j == 46) = false := fun j h => by
        rw [fb_at (bl bx) j (by rw [bl_length]; exact h), beq_eq_false_iff_ne]
        have := ld_class _ (HLD.out _ (List.getElem_mem (l := bl bx) (n := j) (by rw [bl_length]; exact h)))
        omega
      have hnd0 := hnd 0 hb0
      have hnd1 := hnd (bx.size - 1) (by omega)
      have hbne : ((bx.size : Int) == 0) = false := by rw [beq_eq_false_iff_ne]; omega
      have hcap2 : bx.size ≤ cap := by
        rcases hown.2 with ⟨h1, _⟩ | ⟨_, _, _, h1, _, _, h2, _⟩
        · cases h1
        · injection h1 with _ _ h3; omega
      clear hug h64 hcell hnd
      have HOW := Lib.hid hown; clear hown
      have HCV : Hid (∀ w', Ext wr w' → (Go.convert 53 9 (.slice (some ⟨g, 0, none⟩) bx.size cap)).run Tryz.prog w' = .ok (.string bx) w') := fun w' hx => by
        have hcv := run_convert_bytes_arg (P := Tryz.prog) w' 53 5 Tryz.underlying53 Tryz.underlying5 g 0 bx.size cap ((bl bx).map fun c => (c.toNat : Int)) (by rw [List.length_map, bl_length]) (fun i hi => by
          rw [Nat.zero_add, hx.cell (HCE.out i hi), fb_at (bl bx) i (by rw [bl_length]; omega)]
          simp [List.getD_eq_getElem?_getD, List.getElem?_eq_getElem (show i < (bl bx).length by rw [bl_length]; omega)]) 9 Tryz.underlying9
        rw [strOfNums_mk, mk_bl] at hcv
        exact hcv
      have hcv := HCV.out wr (Ext.refl wr)
      have HDD : Hid (Pl.has (bl bx) [46, 46] = false) := Pl.has_no 46 (by simp) (fun h => by
        have := ld_class _ (HLD.out 46 h)
        revert this; decide)
      have HUX : Hid (u.extract 1 u.size = ho) := by
        unfold Hid
        rw [← mk_bl (u.extract 1 u.size), bl_extract, HU.out, HS.out, List.drop_drop, List.drop_append, bl_length]
        rw [show bx.size + 1 - bx.size = 1 by omega, List.drop_of_length_le (by rw [bl_length]; omega)]
        simp only [List.nil_append, List.drop_succ_cons, List.drop_zero]
        rw [List.take_of_length_le (by rw [bl_length, HUS.out, HSZ.out]; omega), mk_bl]
      have HRV : Hid (∀ w', Calls Tryz.prog 69 #[.string ho] w' (RevPost ho w')) := fun w' => by
        refine Rev_any ho w' (by omega) ?_ ?_ ?_
        · rw [Pl.name_labs HN.out]; exact Pl.splitDot_ne _
        · rw [Pl.name_labs HN.out]; exact fun l hl => Pl.okLab_nil (Pl.name_all HN.out l hl)
        · exact fun x hx => by have := Pl.nc_range x (Pl.isName_mem HN.out x hx); exact ⟨this.1, this.2.1⟩
      have HBr := Lib.hid (HB0.out.ext hb)
      have HXr := Lib.hid hb
      clear hb
      go_wp2_with fail
      refine (zzContains_any bx ⟨#[46, 46]⟩ _ (by omega) (by decide)).mono ?_
      rintro e w2 ⟨rfl, hb2⟩
      rw [show Pl.has (bl bx) (bl ⟨#[46, 46]⟩) = false from HDD.out]
      go_wp2_with fail
      rw [Exit.noGoto_normal]
      go_wp2_with fail
      rw [HUX.out]
      refine (HRV.out _).mono ?_
      rintro e w3 ⟨A, n, cc, xs, rfl, hrd, hxs, hxsz, hb3⟩
      clear hrd hxs hxsz hcv
      have hcv := HCV.out w3 (hb2.tr hb3)
      have HB3 := Lib.hid (HBr.out.ext (hb2.tr hb3))
      have HX3 := Lib.hid (HXr.out.tr (hb2.tr hb3))
      have q0 := HB3.out.cell 0
      have q1 := HB3.out.cell 1
      have f0 := HB3.out.frozen 0
      have f1 := HB3.out.frozen 1
      clear hb2 hb3
      go_wp2_with fail
      have HB4 : Hid (Blk ((((w3.setCell ⟨w.heap.size, 0, none⟩ (.string bx)).setCell ⟨w.heap.size, 1, none⟩ (.string ho)).setCell ⟨w.heap.size, 0, none⟩ (.string bx)).setCell ⟨w.heap.size, 1, none⟩ (.string ho)) w.heap.size 96 #[.string bx, .string ho]) := (((HB3.out.set_ 0 _).set_ 1 _).set_ 0 _).set_ 1 _
      have HX4 : Hid (Ext w ((((w3.setCell ⟨w.heap.size, 0, none⟩ (.string bx)).setCell ⟨w.heap.size, 1, none⟩ (.string ho)).setCell ⟨w.heap.size, 0, none⟩ (.string bx)).setCell ⟨w.heap.size, 1, none⟩ (.string ho))) := Below.setCell (Below.setCell (Below.setCell (Below.setCell (HX0.out.tr HX3.out) (Nat.le_refl _) _) (Nat.le_refl _) _) (Nat.le_refl _) _) (Nat.le_refl _) _
      have r0 := HB4.out.cell 0
      have r1 := HB4.out.cell 1
      refine bodyPost_ret (v := .tuple #[.agg #[.string bx, .string ho], .bool true]) (by simp [results, Tryz.results80, go_sem, r0, r1]) rfl ⟨rfl, HX4.out⟩
end Go.Proofs.YtedniebpabfglaaGreatDoor
