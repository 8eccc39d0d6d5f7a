/- The walks of zzIndex, zzContains and zzLastIndex: where a part stands in a text. -/
import Derived.Test.YtedniebpabfglaaGreatDoorLib
namespace Go.Proofs.YtedniebpabfglaaGreatDoor
open Go.RowKit

def IdxPost (s p : ByteArray) (w : World) (e : Ending) (w' : World) : Prop :=
  ∃ k : Int, e = .returned (.int .i64 k) ∧ ((k = -1 ∧ Pl.has (bl s) (bl p) = false) ∨ (∃ i : Nat, k = i ∧ i + p.size ≤ s.size ∧ Pl.at_ (bl s) (bl p) i = true ∧ ∀ j, j < i → Pl.at_ (bl s) (bl p) j = false)) ∧ Ext w w'
theorem at_spell (s p : ByteArray) (k : Nat) : ((s.extract k (k + p.size)).toList == p.toList) = Pl.at_ (bl s) (bl p) k := by
  rw [eq_str, bl_extract, show k + p.size - k = p.size by omega]
  unfold Pl.at_
  rw [bl_length]

set_option maxHeartbeats 1000000 in
theorem zzIndex_any (s p : ByteArray) (w : World) (hs : s.size ≤ 2147483647) (hp : p.size ≤ 2147483647) :
    Calls Tryz.prog 92 #[.string s, .string p] w (IdxPost s p w) := by
  go_enter Tryz.func92, Tryz.ntmps92
  go_wp2
  go_loopw [5] (fun i wr => ∃ k : Nat, i = .int .i64 k ∧ k ≤ s.size + 1 ∧ (∀ j, j < k → Pl.at_ (bl s) (bl p) j = false) ∧ Ext w wr) (fun i _ => s.size + 1 - (intOf i).toNat)
  case atStart => exact ⟨0, rfl, by omega, by omega, Ext.refl w⟩
  case round =>
    obtain ⟨k, rfl, hk, hno, hb⟩ := hrel
    have HN := Lib.hid hno; clear hno
    by_cases hlt : k + p.size ≤ s.size
    · cases ha : Pl.at_ (bl s) (bl p) k with
      | true =>
        have HA := Lib.hid ha
        have h1 : ((s.extract k (k + p.size)).toList == p.toList) = true := (at_spell s p k).trans ha
        clear ha
        go_wp2
        go_ret
        exact ⟨k, rfl, .inr ⟨k, rfl, hlt, HA.out, HN.out⟩, hb⟩
      | false =>
        have HA := Lib.hid ha
        have h1 : ((s.extract k (k + p.size)).toList == p.toList) = false := (at_spell s p k).trans ha
        clear ha
        go_wp2
        go_roundw
        case rel => exact ⟨k + 1, by go_num, by omega, fun j hj => by rcases Nat.lt_or_ge j k with h | h; exact HN.out j h; obtain rfl : j = k := (by omega); exact HA.out, hb⟩
        case measure => simp [intOf]; omega
    · go_wp2
      go_ret
      exact ⟨-1, rfl, .inl ⟨rfl, Pl.has_false fun i hi => HN.out i (by rw [bl_length, bl_length] at hi; omega)⟩, hb⟩

theorem zzContains_any (s p : ByteArray) (w : World) (hs : s.size ≤ 2147483647) (hp : p.size ≤ 2147483647) :
    Calls Tryz.prog 65 #[.string s, .string p] w (BoolPost (Pl.has (bl s) (bl p)) w) := by
  go_enter Tryz.func65, Tryz.ntmps65
  go_wp2_with fail
  refine (zzIndex_any _ _ _ (by omega) (by omega)).mono ?_
  rintro e w1 ⟨k, rfl, hk, hb⟩
  have HK := Lib.hid hk
  rcases hk with ⟨rfl, hk⟩ | ⟨i, rfl, hi, ha, hk⟩
  · have HF := Lib.hid hk; clear hk HK
    go_wp2
    go_ret
    exact ⟨ret_bool (by rw [HF.out]), hb⟩
  · have HF := Lib.hid (Pl.has_true (s := bl s) (p := bl p) i (by rw [bl_length, bl_length]; exact hi) ha)
    clear hk HK ha
    go_wp2
    go_ret
    exact ⟨ret_bool (by rw [HF.out]), hb⟩

def LastPost (s p : ByteArray) (w : World) (e : Ending) (w' : World) : Prop :=
  ∃ k : Int, e = .returned (.int .i64 k) ∧ ((k = -1 ∧ Pl.has (bl s) (bl p) = false) ∨ (∃ i : Nat, k = i ∧ i + p.size ≤ s.size ∧ Pl.at_ (bl s) (bl p) i = true ∧ ∀ j, i < j → j + p.size ≤ s.size → Pl.at_ (bl s) (bl p) j = false)) ∧ Ext w w'

set_option maxHeartbeats 1000000 in
theorem zzLast_any (s p : ByteArray) (w : World) (hs : s.size ≤ 2147483647) (hp : p.size ≤ 2147483647) :
    Calls Tryz.prog 67 #[.string s, .string p] w (LastPost s p w) := by
  go_enter Tryz.func67, Tryz.ntmps67
  go_wp2
  go_loopw [5] (fun i wr => ∃ q : Int, i = .int .i64 q ∧ -2147483650 ≤ q ∧ q ≤ (s.size : Int) - p.size ∧ (∀ j : Nat, q < j → j + p.size ≤ s.size → Pl.at_ (bl s) (bl p) j = false) ∧ Ext w wr) (fun i _ => (intOf i + 1).toNat)
  case atStart => exact ⟨_, rfl, by omega, by omega, (fun j h1 h2 => by omega), Ext.refl w⟩
  case round =>
    obtain ⟨q, rfl, hlo, hq, hno, hb⟩ := hrel
    have HN := Lib.hid hno; clear hno
    by_cases hlt : 0 ≤ q
    · obtain ⟨k, rfl⟩ := Int.eq_ofNat_of_zero_le hlt
      have hle : k + p.size ≤ s.size := by omega
      cases ha : Pl.at_ (bl s) (bl p) k with
      | true =>
        have HA := Lib.hid ha
        have h1 : ((s.extract k (k + p.size)).toList == p.toList) = true := (at_spell s p k).trans ha
        clear ha
        go_wp2
        go_ret
        exact ⟨k, rfl, .inr ⟨k, rfl, hle, HA.out, fun j h1 h2 => HN.out j (by omega) h2⟩, hb⟩
      | false =>
        have HA := Lib.hid ha
        have h1 : ((s.extract k (k + p.size)).toList == p.toList) = false := (at_spell s p k).trans ha
        clear ha
        go_wp2
        go_roundw
        case rel => exact ⟨(k : Int) - 1, rfl, by omega, by omega, (fun j h1 h2 => by rcases Nat.lt_or_ge k j with h | h; exact HN.out j (by omega) h2; obtain rfl : j = k := (by omega); exact HA.out), hb⟩
        case measure => simp [intOf]
    · go_wp2
      go_ret
      exact ⟨-1, rfl, .inl ⟨rfl, Pl.has_false fun i hi => HN.out i (by omega) (by rw [bl_length, bl_length] at hi; omega)⟩, hb⟩
end Go.Proofs.YtedniebpabfglaaGreatDoor
