/- The walk of spec.Labels: it returns the labels of a text, and whether they are right. -/
import Derived.Test.YtedniebpabfglaaGreatDoorProg
import Derived.Test.YtedniebpabfglaaGreatDoorBase
import Derived.Test.YtedniebpabfglaaGreatDoorPlain
namespace Go.Proofs.YtedniebpabfglaaGreatDoor
open Go.RowKit

theorem info_string : (Tryz.prog.info? 9).map (fun i => (i.zero, i.size, i.bytes)) = some (some (.string ⟨#[]⟩), 1, 16) := by kernel_rfl

/-- What Labels returns. -/
def LabelsPost (s : ByteArray) (w : World) (e : Ending) (w' : World) : Prop :=
  ∃ A n c xs, e = .returned (.tuple #[.slice A n c, .bool (Pl.isName (bl s))]) ∧ RdS w' A n xs ∧ (Pl.isName (bl s) = true → xs.map bl = Pl.splitDot (bl s)) ∧ Ext w w'

theorem Labels_no {s : ByteArray} {w w' : World} (h : Pl.isName (bl s) = false) (hb : Ext w w') : LabelsPost s w (.returned (.tuple #[.slice none 0 0, .bool false])) w' :=
  ⟨none, 0, 0, [], by rw [h], ⟨rfl, by omega, fun j hj => by simp at hj⟩, (fun e => by rw [h] at e; cases e), hb⟩
theorem let_of (c : UInt8) (h : (97 ≤ (c.toNat : Int) ∧ (c.toNat : Int) ≤ 122) ∨ (65 ≤ (c.toNat : Int) ∧ (c.toNat : Int) ≤ 90)) : Pl.isLet c = true := by
  unfold Pl.isLet; simp; omega
theorem let_not (c : UInt8) (h : ¬ ((97 ≤ (c.toNat : Int) ∧ (c.toNat : Int) ≤ 122) ∨ (65 ≤ (c.toNat : Int) ∧ (c.toNat : Int) ≤ 90))) : Pl.isLet c = false := by
  unfold Pl.isLet; simp; omega
theorem dig_of (c : UInt8) (h : 48 ≤ (c.toNat : Int) ∧ (c.toNat : Int) ≤ 57) : Pl.isDig c = true := by
  unfold Pl.isDig; simp; omega
theorem dig_not (c : UInt8) (h : ¬ (48 ≤ (c.toNat : Int) ∧ (c.toNat : Int) ≤ 57)) : Pl.isDig c = false := by
  unfold Pl.isDig; simp; omega

set_option maxHeartbeats 2000000 in
set_option maxRecDepth 100000 in
theorem Labels_any (s : ByteArray) (w : World) (hs : s.size ≤ 2147483647) :
    Calls Tryz.prog 9 #[.string s] w (LabelsPost s w) := by
  obtain ⟨i0, hi, hz0, hz1, hz2⟩ := info_parts info_string
  have hbad : (Pl.splitDot (bl s)).all Pl.okLab = false → Pl.isName (bl s) = false := fun h => by rw [Pl.isName_iff, h]; rfl
  have HB := Lib.hid hbad; clear hbad
  go_enter Tryz.func9, Tryz.ntmps9
  go_wp2
  go_loopw [4, 5, 6] (fun v fr i wr => ∃ (k f : Nat) (xs : List ByteArray), i = .int .i64 k ∧ fr = .int .i64 f ∧ Pl.LabInv (bl s) k f (xs.map bl) ∧ xs.length ≤ k ∧ wr.ownsRow w.heap.size 9 1 v xs.length (xs.map .string) ∧ Below w.heap.size w wr) (fun _ _ i _ => s.size + 1 - (intOf i).toNat)
  case atStart => exact ⟨0, 0, [], rfl, rfl, Pl.LabInv.start _, by simp, own_empty w _, (Ext.refl w).alloc _⟩
  case round =>
    obtain ⟨k, f, xs, rfl, rfl, hinv, hxl, hown, hb⟩ := hrel
    have hlen := bl_length s
    have hk : k ≤ s.size + 1 := by have := hinv.hk; omega
    have hf : f ≤ k := hinv.hf
    have HI := Lib.hid hinv; clear hinv
    have HL := Lib.hid hlen; clear hlen
    have hgl : ∀ h : k < s.size, (bl s)[k]'(by rw [bl_length]; exact h) = s[k] := fun h => bl_get s k h
    by_cases hlt : k < s.size
    · have hrg : 0 ≤ (s[k].toNat : Int) ∧ (s[k].toNat : Int) ≤ 255 := ⟨by omega, by have := s[k].toNat_lt; omega⟩
      obtain ⟨hr0, hr1⟩ := hrg
      have hkl : k < (bl s).length := by rw [bl_length]; exact hlt
      have HG := Lib.hid (hgl hlt); clear hgl
      by_cases hd : (s[k].toNat : Int) = 46
      · have hd1 : ((s[k].toNat : Int) != 46) = false := by rw [hd]; rfl
        have HD : Hid (∀ h : k < (bl s).length, (bl s)[k] = 46) := fun h => by
          have e : (bl s)[k] = s[k] := HG.out
          rw [e]; exact UInt8.toNat_inj.1 (show s[k].toNat = 46 by omega)
        clear hd
        by_cases hbd : k = f ∨ 10 < k - f
        · have hfin : Pl.isName (bl s) = false := HB.out (HI.out.bad_dot (by omega) HD.out hbd)
          have HF := Lib.hid hfin; clear hfin
          rcases hbd with rfl | hbd
          · go_wp2
            go_ret2
            exact Labels_no HF.out hb
          · have hne : ((k : Int) == (f : Int)) = false := by rw [beq_eq_false_iff_ne]; omega
            have hgt : 10 < (k : Int) - (f : Int) := by omega
            go_wp2
            all_goals go_ret2
            all_goals exact Labels_no HF.out hb
        · have hne : ((k : Int) == (f : Int)) = false := by rw [beq_eq_false_iff_ne]; omega
          have hle : (k : Int) - (f : Int) ≤ 10 := by omega
          have hnext := HI.out.dot (by omega) HD.out (by omega) (by omega)
          have HN := Lib.hid hnext; clear hnext
          go_wp2_with (at_builtin; refine wpList_append_own _ rfl (.tmp 67) (.tmp 72) 22 rfl w.heap.size 9 i0 (.string ⟨#[]⟩) 1 16 Tryz.underlying22 hi hz0 hz1 hz2 rfl (by decide) _ _ _ rfl (hown.alloc _) ⟨wr.heap.size, 0, none⟩ 1 1 [.string (s.extract f k)] rfl rfl (one_new _ _ _) (by intro u hu; simp at hu; subst hu; rfl) (by unfold maxLen; omega) (by omega) (by have := hb.size; simp; omega) ?_; intro v' w1 hown' hgrow _)
          go_roundw
          case rel => exact ⟨k + 1, k + 1, xs ++ [s.extract f k], by go_num, by go_num, by rw [List.map_append, List.map_singleton, bl_extract]; exact HN.out, by simp; omega, by simpa using hown', (hb.alloc hb.size _).grown hgrow (by have := hb.size; simp; omega) (own_lo hown)⟩
          case measure => simp [intOf]; omega
      · have hd1 : ((s[k].toNat : Int) != 46) = true := by rw [bne_iff_ne]; exact hd
        have HD : Hid ((bl s)[k] ≠ 46) := by
          intro e
          have e2 : (bl s)[k] = s[k] := HG.out
          rw [e2] at e
          exact hd (by rw [e]; rfl)
        clear hd
        rcases (show ((97 ≤ (s[k].toNat : Int) ∧ (s[k].toNat : Int) ≤ 122) ∨ (65 ≤ (s[k].toNat : Int) ∧ (s[k].toNat : Int) ≤ 90)) ∨ ((48 ≤ (s[k].toNat : Int) ∧ (s[k].toNat : Int) ≤ 57) ∧ k ≠ f) ∨ ((48 ≤ (s[k].toNat : Int) ∧ (s[k].toNat : Int) ≤ 57) ∧ k = f) ∨ ((s[k].toNat : Int) < 48 ∨ (58 ≤ (s[k].toNat : Int) ∧ (s[k].toNat : Int) ≤ 64) ∨ (91 ≤ (s[k].toNat : Int) ∧ (s[k].toNat : Int) ≤ 96) ∨ 123 ≤ (s[k].toNat : Int)) from by omega) with hc | ⟨hc, hkf⟩ | ⟨hc, rfl⟩ | hc
        · have HN := Lib.hid (HI.out.char hkl (.inl (by have e : (bl s)[k] = s[k] := HG.out; rw [e]; exact let_of _ hc)))
          rcases hc with ⟨hc0, hc1⟩ | ⟨hc0, hc1⟩
          all_goals
            go_wp2
            go_roundw
            case rel => exact ⟨k + 1, f, xs, by go_num, rfl, HN.out, by omega, hown, hb⟩
            case measure => simp [intOf]; omega
        · have HN := Lib.hid (HI.out.char hkl (.inr ⟨by have e : (bl s)[k] = s[k] := HG.out; rw [e]; exact dig_of _ hc, hkf⟩))
          obtain ⟨hc0, hc1⟩ := hc
          have hne : ((k : Int) == (f : Int)) = false := by rw [beq_eq_false_iff_ne]; omega
          clear hkf
          go_wp2
          go_roundw
          case rel => exact ⟨k + 1, f, xs, by go_num, rfl, HN.out, by omega, hown, hb⟩
          case measure => simp [intOf]; omega
        · have HF := Lib.hid (HB.out (HI.out.bad_char hkl HD.out (by have e : (bl s)[k] = s[k] := HG.out; rw [e]; exact let_not _ (by omega)) (.inr rfl)))
          obtain ⟨hc0, hc1⟩ := hc
          go_wp2
          all_goals go_ret2
          all_goals exact Labels_no HF.out hb
        · have HF := Lib.hid (HB.out (HI.out.bad_char hkl HD.out (by have e : (bl s)[k] = s[k] := HG.out; rw [e]; exact let_not _ (by omega)) (.inl (by have e : (bl s)[k] = s[k] := HG.out; rw [e]; exact dig_not _ (by omega)))))
          rcases hc with hc | ⟨hc, hc2⟩ | ⟨hc, hc2⟩ | hc
          · go_wp2
            go_ret2
            exact Labels_no HF.out hb
          · go_wp2
            go_ret2
            exact Labels_no HF.out hb
          · have hx : decide ((s[k].toNat : Int) ≤ 90) = false := by simp; omega
            go_wp2
            go_ret2
            exact Labels_no HF.out hb
          · have hx : decide ((s[k].toNat : Int) ≤ 90) = false := by simp; omega
            have hy : decide ((s[k].toNat : Int) ≤ 122) = false := by simp; omega
            go_wp2
            go_ret2
            exact Labels_no HF.out hb
    · by_cases hend : k = s.size
      · have HD : Hid (∀ h : k < (bl s).length, (bl s)[k] = 46) := fun h => by exfalso; rw [bl_length] at h; omega
        have hle2 : ¬ ((k : Int) < (s.size : Int)) := by omega
        have hkl : k ≤ (bl s).length := by rw [bl_length]; omega
        clear hgl
        have hge1 : (s.size : Int) ≤ k := by omega
        have hge2 : (k : Int) ≤ s.size := by omega
        clear hend
        by_cases hbd : k = f ∨ 10 < k - f
        · have hfin : Pl.isName (bl s) = false := HB.out (HI.out.bad_dot (by omega) HD.out hbd)
          have HF := Lib.hid hfin; clear hfin
          rcases hbd with rfl | hbd
          · go_wp2
            go_ret2
            exact Labels_no HF.out hb
          · have hne : ((k : Int) == (f : Int)) = false := by rw [beq_eq_false_iff_ne]; omega
            have hgt : 10 < (k : Int) - (f : Int) := by omega
            go_wp2
            all_goals go_ret2
            all_goals exact Labels_no HF.out hb
        · have hne : ((k : Int) == (f : Int)) = false := by rw [beq_eq_false_iff_ne]; omega
          have hle : (k : Int) - (f : Int) ≤ 10 := by omega
          have hnext := HI.out.dot (by omega) HD.out (by omega) (by omega)
          have HN := Lib.hid hnext; clear hnext
          go_wp2_with (at_builtin; refine wpList_append_own _ rfl (.tmp 67) (.tmp 72) 22 rfl w.heap.size 9 i0 (.string ⟨#[]⟩) 1 16 Tryz.underlying22 hi hz0 hz1 hz2 rfl (by decide) _ _ _ rfl (hown.alloc _) ⟨wr.heap.size, 0, none⟩ 1 1 [.string (s.extract f k)] rfl rfl (one_new _ _ _) (by intro u hu; simp at hu; subst hu; rfl) (by unfold maxLen; omega) (by omega) (by have := hb.size; simp; omega) ?_; intro v' w1 hown' hgrow _)
          go_roundw
          case rel => exact ⟨k + 1, k + 1, xs ++ [s.extract f k], by go_num, by go_num, by rw [List.map_append, List.map_singleton, bl_extract]; exact HN.out, by simp; omega, by simpa using hown', (hb.alloc hb.size _).grown hgrow (by have := hb.size; simp; omega) (own_lo hown)⟩
          case measure => simp [intOf]; omega
      · have HF := Lib.hid (HI.out.fin (by rw [bl_length]; omega))
        have HA := Lib.hid HI.out.all
        have hgt : (s.size : Int) < k := by omega
        obtain ⟨A, c, rfl, hrd⟩ := own_rdS hown (by omega)
        clear hgl hend
        go_wp2
        go_ret2
        exact ⟨A, _, c, xs, ret_tup2 rfl (by rw [Pl.isName_iff, ← HF.out, HA.out]; simp; omega), hrd, fun _ => HF.out, hb⟩
end Go.Proofs.YtedniebpabfglaaGreatDoor
