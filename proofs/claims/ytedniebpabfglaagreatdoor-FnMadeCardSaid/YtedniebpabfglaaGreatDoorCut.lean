/- The walk of spec.cut: what stands ahead of a sign and behind it. -/
import Derived.Test.YtedniebpabfglaaGreatDoorSpec2
namespace Go.Proofs.YtedniebpabfglaaGreatDoor
open Go.RowKit

/-- What cut returns: texts whose bytes are these. -/
def CutPost (s : ByteArray) (c : UInt8) (w : World) (e : Ending) (w' : World) : Prop :=
  ∃ (a b : ByteArray), e = .returned (.tuple #[.string a, .string b, .bool (Pl.cutAt c (bl s)).2.2]) ∧ bl a = (Pl.cutAt c (bl s)).1 ∧ bl b = (Pl.cutAt c (bl s)).2.1 ∧ a.size ≤ s.size ∧ b.size ≤ s.size ∧ Ext w w'

set_option maxHeartbeats 1000000 in
theorem cut_any (s : ByteArray) (c : UInt8) (w : World) (hs : s.size ≤ 2147483647) :
    Calls Tryz.prog 18 #[.string s, .int .u8 (c.toNat : Int)] w (CutPost s c w) := by
  go_enter Tryz.func18, Tryz.ntmps18
  go_wp2
  go_loopw [7] (fun i wr => ∃ k : Nat, i = .int .i64 k ∧ k ≤ s.size ∧ (∀ x ∈ (bl s).take k, x ≠ c) ∧ Ext w wr) (fun i _ => s.size - (intOf i).toNat)
  case atStart => exact ⟨0, rfl, by omega, by simp, Ext.refl w⟩
  case round =>
    obtain ⟨k, rfl, hk, hno, hb⟩ := hrel
    have HN := Lib.hid hno; clear hno
    by_cases hlt : k < s.size
    · have hkl : k < (bl s).length := by rw [bl_length]; exact hlt
      have HG : Hid ((bl s)[k] = s[k]) := bl_get s k hlt
      by_cases he : s[k] = c
      · have h1 : ((s[k].toNat : Int) == (c.toNat : Int)) = true := by rw [he]; simp
        have HE : Hid (bl s = (bl s).take k ++ c :: (bl s).drop (k + 1)) := by
          have e1 : (bl s)[k] = s[k] := HG.out
          unfold Hid
          rw [← he, ← e1, ← List.drop_eq_getElem_cons, List.take_append_drop]
        have HC : Hid (Pl.cutAt c (bl s) = ((bl s).take k, (bl s).drop (k + 1), true)) := by
          unfold Hid
          conv => lhs; rw [HE.out]
          rw [Pl.cutAt_at _ _ _ HN.out]
        clear he
        go_wp2
        go_quiet (fail)
        all_goals go_wp2
        all_goals go_ret3
        all_goals exact ⟨s.extract 0 k, s.extract (k + 1) s.size, (by rw [HC.out]; rfl), by rw [HC.out, bl_extract]; simp, by rw [HC.out, bl_extract]; rw [List.take_of_length_le (by rw [List.length_drop, bl_length]; omega)], by rw [ByteArray.size_extract]; omega, by rw [ByteArray.size_extract]; omega, hb.drewN _⟩
      · have h1 : ((s[k].toNat : Int) == (c.toNat : Int)) = false := by
          rw [beq_eq_false_iff_ne]
          intro e
          exact he (UInt8.toNat_inj.1 (by omega))
        have HS : Hid (∀ x ∈ (bl s).take (k + 1), x ≠ c) := by
          intro x hx
          rw [List.take_succ_eq_append_getElem hkl] at hx
          rcases List.mem_append.1 hx with hx | hx
          · exact HN.out x hx
          · simp at hx
            have e1 : (bl s)[k] = s[k] := HG.out
            rw [hx]; exact fun e2 => he (e1.symm.trans e2)
        clear he
        go_wp2
        go_roundw
        case rel => exact ⟨k + 1, by go_num, by omega, HS.out, hb⟩
        case measure => simp [intOf]; omega
    · have HC : Hid (Pl.cutAt c (bl s) = (bl s, [], false)) := by
        have := HN.out
        rw [List.take_of_length_le (by rw [bl_length]; omega)] at this
        exact Pl.cutAt_none c _ this
      go_wp2
      go_ret3
      exact ⟨s, ⟨#[]⟩, (by rw [HC.out]; rfl), by rw [HC.out], by rw [HC.out], by omega, by show (0 : Nat) ≤ _; omega, hb⟩
end Go.Proofs.YtedniebpabfglaaGreatDoor
