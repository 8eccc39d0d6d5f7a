/- The walk of normalizeAndValidateCommonName at names. -/
import Derived.Test.YtedniebpabfglaaGreatDoorNormD
namespace Go.Proofs.YtedniebpabfglaaGreatDoor
open Go.RowKit

set_option maxHeartbeats 1000000 in
theorem NormC_any (s : ByteArray) (w : World) (hs : s.size ≤ 2147483647) (ht : SpTab w) (hn : Pl.isName (bl s) = true) :
    Calls Tryz.prog 55 #[.string s] w (NormPost (Pl.small (bl s)) w) := by
  have hnt : Pl.isName (Pl.small (bl s)) = true := by rw [Pl.small_name]; exact hn
  have hvis : vis (bl s) := fun x hx => by have := Pl.nc_range x (Pl.isName_mem hn x hx); exact ⟨this.1, this.2.1⟩
  obtain ⟨t, hT⟩ : ∃ t, t = mk (Pl.small (bl s)) := ⟨_, rfl⟩
  have hbt : bl t = Pl.small (bl s) := by rw [hT, bl_mk]
  have HV := Lib.hid hvis; clear hvis
  have HT := Lib.hid hT
  have HSP := Lib.hid ht; clear ht
  obtain ⟨c, r, hcr, hcl⟩ := Pl.name_head hnt
  have hne := nonempty_list (s := t) (by rw [hbt, hcr]; simp)
  obtain ⟨hne1, hne2⟩ := hne
  have hst1 : ¬ t.toList = [42] := by rw [toList_bl, hbt, hcr]; intro e; injection e with e _; subst e; revert hcl; decide
  have hst2 : (t.toList == [42]) = false := by rw [beq_eq_false_iff_ne]; exact hst1
  clear hcr hcl hn hnt hT hbt
  go_enter Tryz.func55, Tryz.ntmps55
  go_wp2_with fail
  refine (Trim_any s w (by omega) HV.out HSP.out).mono ?_
  rintro e w1 ⟨rfl, hb1⟩
  go_wp2_with fail
  refine (Lower_any s w1 (by omega) HV.out).mono ?_
  rintro e w2 ⟨rfl, hb2⟩
  rw [← HT.out]
  go_wp2
  go_ret2
  exact ⟨ret_tup2 (congrArg Value.string HT.out) rfl, hb1.tr hb2⟩
end Go.Proofs.YtedniebpabfglaaGreatDoor
