/- The walk of spec.IsMailbox: whether a text is a constraint of mails. -/
import Derived.Test.YtedniebpabfglaaGreatDoorSmall
namespace Go.Proofs.YtedniebpabfglaaGreatDoor
open Go.RowKit

theorem eq_str (a b : ByteArray) : (a.toList == b.toList) = (bl a == bl b) := by rw [toList_bl, toList_bl]

set_option maxHeartbeats 1000000 in
set_option maxRecDepth 100000 in
/-- From where the host's labels are asked on. -/
theorem IsMailbox_any (s : ByteArray) (w : World) (hs : s.size ≤ 2147483647) :
    Calls Tryz.prog 13 #[.string s] w (BoolPost (Pl.isMailbox (bl s)) w) := by
  go_enter Tryz.func13, Tryz.ntmps13
  go_wp2_with fail
  refine (cut_any s 64 w (by omega)).mono ?_
  rintro e w1 ⟨bx, ho, rfl, hA, hB, hAs, hBs, hb1⟩
  cases hm : (Pl.cutAt 64 (bl s)).2.2 with
  | false =>
    have HQ : Hid (Pl.isMailbox (bl s) = (Pl.isName (bl s) && (Pl.small (bl s) == bl s))) := by
      unfold Hid Pl.isMailbox Pl.boxOf Pl.hostOf; rw [hm]; simp
    clear hA hB hm
    go_wp2_with fail
    refine (Labels_any _ _ (by omega)).mono ?_
    rintro e w2 ⟨A, n, c, xs, rfl, hrd, hxs, hb2⟩
    clear hrd hxs
    cases hn : Pl.isName (bl s) with
    | false =>
      have HF : Hid (Pl.isMailbox (bl s) = false) := by unfold Hid; rw [HQ.out, hn]; rfl
      clear hn
      go_wp2
      go_ret
      exact ⟨ret_bool HF.out.symm, hb1.tr hb2⟩
    | true =>
      have HF : Hid (Pl.isMailbox (bl s) = (Pl.small (bl s) == bl s)) := by unfold Hid; rw [HQ.out, hn]; rfl
      clear hn
      go_wp2_with fail
      refine (small_any _ _ (by omega)).mono ?_
      rintro e w3 ⟨t, rfl, ht, hb3⟩
      have HT := Lib.hid ht; clear ht
      go_wp2
      go_ret
      exact ⟨ret_bool (by rw [HF.out, ← HT.out]; exact eq_str _ _), (hb1.tr hb2).tr hb3⟩
  | true =>
    have HQ : Hid (Pl.isMailbox (bl s) = (Pl.isName (bl ho) && ((bl bx).isEmpty || Pl.okLab (bl bx)) && (Pl.small (bl s) == bl s))) := by
      unfold Hid Pl.isMailbox Pl.boxOf Pl.hostOf; rw [hm, hA, hB]; rfl
    clear hA hB hm
    go_wp2_with fail
    refine (Labels_any _ _ (by omega)).mono ?_
    rintro e w2 ⟨A, n, c, xs, rfl, hrd, hxs, hb2⟩
    clear hrd hxs
    cases hn : Pl.isName (bl ho) with
    | false =>
      have HF : Hid (Pl.isMailbox (bl s) = false) := by unfold Hid; rw [HQ.out, hn]; rfl
      clear hn
      go_wp2
      go_ret
      exact ⟨ret_bool HF.out.symm, hb1.tr hb2⟩
    | true =>
      cases he : (bl bx).isEmpty with
      | true =>
        have HF : Hid (Pl.isMailbox (bl s) = (Pl.small (bl s) == bl s)) := by unfold Hid; rw [HQ.out, hn, he]; rfl
        have h1 : bx.toList = [] := by rw [toList_bl]; simpa using he
        have h2 : bx.toList.isEmpty = true := by rw [toList_bl]; exact he
        clear hn he
        go_wp2_with fail
        refine (small_any _ _ (by omega)).mono ?_
        rintro e w3 ⟨t, rfl, ht, hb3⟩
        have HT := Lib.hid ht; clear ht
        go_wp2
        go_ret
        exact ⟨ret_bool (by rw [HF.out, ← HT.out]; exact eq_str _ _), (hb1.tr hb2).tr hb3⟩
      | false =>
        have HF : Hid (Pl.isMailbox (bl s) = (Pl.okLab (bl bx) && (Pl.small (bl s) == bl s))) := by unfold Hid; rw [HQ.out, hn, he]; rfl
        have h1 : ¬ bx.toList = [] := by rw [toList_bl]; simpa using he
        have h2 : bx.toList.isEmpty = false := by rw [toList_bl]; exact he
        clear hn he
        go_wp2_with fail
        refine (isBox_any _ _ (by omega)).mono ?_
        rintro e w3 ⟨rfl, hb3⟩
        cases hk : Pl.okLab (bl bx) with
        | false =>
          have HF2 : Hid (Pl.isMailbox (bl s) = false) := by unfold Hid; rw [HF.out, hk]; rfl
          clear hk
          go_wp2
          go_ret
          exact ⟨ret_bool HF2.out.symm, (hb1.tr hb2).tr hb3⟩
        | true =>
          have HF2 : Hid (Pl.isMailbox (bl s) = (Pl.small (bl s) == bl s)) := by unfold Hid; rw [HF.out, hk]; rfl
          clear hk
          go_wp2_with fail
          refine (small_any _ _ (by omega)).mono ?_
          rintro e w4 ⟨t, rfl, ht, hb4⟩
          have HT := Lib.hid ht; clear ht
          go_wp2
          go_ret
          exact ⟨ret_bool (by rw [HF2.out, ← HT.out]; exact eq_str _ _), ((hb1.tr hb2).tr hb3).tr hb4⟩
end Go.Proofs.YtedniebpabfglaaGreatDoor
