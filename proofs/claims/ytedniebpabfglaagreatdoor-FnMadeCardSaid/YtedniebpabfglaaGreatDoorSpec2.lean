/- The walks of IsDomain and IsPrincipal of package spec. -/
import Derived.Test.YtedniebpabfglaaGreatDoorSpec1
namespace Go.Proofs.YtedniebpabfglaaGreatDoor
open Go.RowKit

theorem star_some {l : Pl.Str} (h2 : 2 < l.length) (h : l.take 2 = [42, 46]) : Pl.star l = some (l.drop 2) := by
  match l, h2, h with
  | a :: b :: c :: r, _, h =>
    simp at h
    obtain ⟨rfl, rfl⟩ := h
    rfl
theorem star_none {l : Pl.Str} (h : l.length ≤ 2 ∨ l.take 2 ≠ [42, 46]) : Pl.star l = none := by
  match l, h with
  | [], _ => rfl
  | [a], _ => simp [Pl.star]
  | [a, b], _ => simp [Pl.star]
  | a :: b :: c :: r, h =>
    have h2 : ¬ (a = 42 ∧ b = 46) := by
      rcases h with h | h
      · simp at h
      · rintro ⟨rfl, rfl⟩; exact h rfl
    unfold Pl.star
    split
    · rename_i e; simp at e; exact absurd ⟨e.1, e.2.1⟩ h2
    · rfl
theorem toList_bl (s : ByteArray) : s.toList = bl s := ByteArray.toList_eq s

theorem IsDomain_any (s : ByteArray) (w : World) (hs : s.size ≤ 2147483647) :
    Calls Tryz.prog 11 #[.string s] w (BoolPost (Pl.isDomain (bl s)) w) := by
  have hsz : (s.extract 2 s.size).size ≤ 2147483647 := by rw [ByteArray.size_extract]; omega
  have HZ := Lib.hid hsz; clear hsz
  by_cases h2 : 2 < s.size
  · by_cases h : (bl s).take 2 = [42, 46]
    · have HD : Hid (Pl.isDomain (bl s) = Pl.isName (bl (s.extract 2 s.size))) := by
        unfold Hid Pl.isDomain
        rw [star_some (by rw [bl_length]; exact h2) h, bl_extract]
        show Pl.isName _ = Pl.isName _
        rw [List.take_of_length_le (by rw [List.length_drop, bl_length]; omega)]
      have ht : ((s.extract 0 2).toList == [42, 46]) = true := by rw [toList_bl, bl_extract]; simpa using h
      clear h
      go_enter Tryz.func11, Tryz.ntmps11
      go_wp2_with fail
      refine (Labels_any _ _ HZ.out).mono ?_
      rintro e w1 ⟨A, n, c, xs, rfl, hrd, hxs, hb⟩
      clear hrd hxs
      go_wp2
      go_ret
      exact ⟨ret_bool HD.out.symm, hb⟩
    · have HD : Hid (Pl.isDomain (bl s) = Pl.isName (bl s)) := by
        unfold Hid Pl.isDomain
        rw [star_none (.inr h)]
      have ht : ((s.extract 0 2).toList == [42, 46]) = false := by rw [toList_bl, bl_extract]; simpa using h
      clear h
      go_enter Tryz.func11, Tryz.ntmps11
      go_wp2_with fail
      refine (Labels_any _ _ (by omega)).mono ?_
      rintro e w1 ⟨A, n, c, xs, rfl, hrd, hxs, hb⟩
      clear hrd hxs
      go_wp2
      go_ret
      exact ⟨ret_bool HD.out.symm, hb⟩
  · have HD : Hid (Pl.isDomain (bl s) = Pl.isName (bl s)) := by
      unfold Hid Pl.isDomain
      rw [star_none (.inl (by rw [bl_length]; omega))]
    have ht : (s.size : Int) ≤ 2 := by omega
    clear h2
    go_enter Tryz.func11, Tryz.ntmps11
    go_wp2_with fail
    refine (Labels_any _ _ (by omega)).mono ?_
    rintro e w1 ⟨A, n, c, xs, rfl, hrd, hxs, hb⟩
    clear hrd hxs
    go_wp2
    go_ret
    exact ⟨ret_bool HD.out.symm, hb⟩
theorem IsPrincipal_any (s : ByteArray) (w : World) (hs : s.size ≤ 2147483647) :
    Calls Tryz.prog 14 #[.string s] w (BoolPost ((bl s == [42]) || Pl.okLab (bl s)) w) := by
  go_enter Tryz.func14, Tryz.ntmps14
  go_wp2_with fail
  · go_ret
    have h : s.toList = [42] := by assumption
    exact ⟨ret_bool (by rw [← toList_bl, h]; rfl), Ext.refl w⟩
  · have h : ¬ s.toList = [42] := by assumption
    refine (isBox_any _ _ (by omega)).mono ?_
    rintro e w1 ⟨rfl, hb⟩
    rw [toList_bl] at h
    have HF : Hid ((bl s == [42]) = false) := by unfold Hid; simpa using h
    clear h
    go_wp2
    all_goals go_ret
    all_goals exact ⟨ret_bool (by rw [HF.out]; simp_all), hb⟩
end Go.Proofs.YtedniebpabfglaaGreatDoor
