/- The walks of zzCut and zzCount, of a part of one sign. The walks of zzScheme and ZZTaken at names, at the empty text and at URIs. The walks of zzURL and ZZURI at names and at URIs. -/
import Derived.Test.YtedniebpabfglaaGreatDoorLookup
import Derived.Test.YtedniebpabfglaaGreatDoorHost
section
namespace Go.Proofs.YtedniebpabfglaaGreatDoor
open Go.RowKit

theorem cut_at_of {l : List UInt8} {c : UInt8} {i : Nat} (hi : i < l.length) (ha : Pl.at_ l [c] i = true) (hn : ∀ j, j < i → Pl.at_ l [c] j = false) :
    Pl.cutAt c l = (l.take i, l.drop (i + 1), true) := by
  rw [Pl.at_one, List.getElem?_eq_getElem hi] at ha
  have hc : l[i] = c := by simpa using ha
  have h := Pl.cutAt_at c (l.take i) (l.drop (i + 1)) (fun x hx => by
    obtain ⟨j, hj, rfl⟩ := List.mem_iff_getElem.1 hx
    rw [List.length_take] at hj
    have h1 := hn j (by omega)
    rw [Pl.at_one, List.getElem?_eq_getElem (by omega)] at h1
    rw [List.getElem_take]
    intro e
    rw [e] at h1
    simp at h1)
  have e : l.take i ++ c :: l.drop (i + 1) = l := by
    rw [← hc, ← List.drop_eq_getElem_cons hi, List.take_append_drop]
  rw [e] at h
  exact h
set_option maxHeartbeats 1000000 in
theorem zzCut_any (s p : ByteArray) (c : UInt8) (w : World) (hs : s.size ≤ 2147483647) (hp : bl p = [c]) (hp1 : p.size = 1) :
    Calls Tryz.prog 70 #[.string s, .string p] w (CutPost s c w) := by
  have HP := Lib.hid hp; clear hp
  go_enter Tryz.func70, Tryz.ntmps70
  go_wp2_with fail
  refine (zzIndex_any _ _ _ (by omega) (by omega)).mono ?_
  rintro e w1 ⟨k, rfl, hk, hb⟩
  rw [HP.out] at hk
  rcases hk with ⟨rfl, hk⟩ | ⟨i, rfl, hi, ha, hk⟩
  · have HC : Hid (Pl.cutAt c (bl s) = (bl s, [], false)) := Pl.cutAt_none c (bl s) (fun x hx e => by
      subst e
      rw [Pl.has_one hx] at hk; cases hk)
    clear hk
    go_wp2
    go_ret3
    exact ⟨s, ⟨#[]⟩, (by rw [HC.out]; rfl), by rw [HC.out], by rw [HC.out], by omega, by show (0 : Nat) ≤ _; omega, hb⟩
  · have hi1 : i + 1 ≤ s.size := by omega
    have HC := Lib.hid (cut_at_of (by rw [bl_length]; omega) ha hk)
    have hi0 : (i : Int) ≤ (s.size : Int) := by omega
    have hi2 : (i : Int) + 1 ≤ (s.size : Int) := by omega
    have hw1 : IntKind.i64.wrap ((i : Int) + 1) = ((i + 1 : Nat) : Int) := by rw [IntWalk.i64_in _ (by omega)]; rfl
    clear hk ha hi
    go_wp2
    go_quiet (fail)
    go_wp2
    go_ret3
    refine ⟨s.extract 0 i, s.extract (i + 1) s.size, (by rw [HC.out]; rfl), ?_, ?_, ?_, ?_, hb.drewN _⟩
    · rw [HC.out, bl_extract]; rfl
    · rw [HC.out, bl_extract, List.take_of_length_le (by rw [List.length_drop, bl_length]; omega)]
    · rw [ByteArray.size_extract]; omega
    · rw [ByteArray.size_extract]; omega
theorem count_next {l : List UInt8} {c : UInt8} {k : Nat} (hk : k < l.length) : (l.take (k + 1)).count c = (l.take k).count c + (if Pl.at_ l [c] k then 1 else 0) := by
  rw [List.take_succ_eq_append_getElem hk, List.count_append, Pl.at_one, List.getElem?_eq_getElem hk]
  by_cases h : l[k] = c
  · rw [h]; simp
  · have e0 : [l[k]].count c = 0 := List.count_eq_zero.2 (by rw [List.mem_singleton]; exact fun e => h e.symm)
    rw [e0, if_neg (by simpa using h)]
set_option maxHeartbeats 1000000 in
theorem zzCount_any (s p : ByteArray) (c : UInt8) (w : World) (hs : s.size ≤ 2147483647) (hp : bl p = [c]) (hp1 : p.size = 1) :
    Calls Tryz.prog 79 #[.string s, .string p] w (fun e w' => e = .returned (.int .i64 ((bl s).count c : Nat)) ∧ Ext w w') := by
  have HP := Lib.hid hp; clear hp
  go_enter Tryz.func79, Tryz.ntmps79
  go_wp2
  go_loopw [5, 6] (fun n i wr => ∃ (k v : Nat), n = .int .i64 v ∧ i = .int .i64 k ∧ k ≤ s.size ∧ v ≤ k ∧ v = ((bl s).take k).count c ∧ Ext w wr) (fun _ i _ => s.size - (intOf i).toNat)
  case atStart => exact ⟨0, 0, rfl, rfl, by omega, by omega, by simp, Ext.refl w⟩
  case round =>
    obtain ⟨k, v, rfl, rfl, hk, hv, hvv, hb⟩ := hrel
    have HV := Lib.hid hvv; clear hvv
    by_cases hlt : k < s.size
    · have hkl : k < (bl s).length := by rw [bl_length]; exact hlt
      have hle : (k : Int) + 1 ≤ (s.size : Int) := by omega
      have hN := count_next (c := c) hkl
      have hsp := at_spell s p k
      rw [HP.out, hp1] at hsp
      cases ha : Pl.at_ (bl s) [c] k with
      | true =>
        rw [ha] at hN hsp
        have HN := Lib.hid hN; clear hN ha
        go_wp2
        go_roundw
        case rel => exact ⟨k + 1, v + 1, by go_num, by go_num, by omega, by omega, by rw [HN.out, ← HV.out]; rfl, hb⟩
        case measure => simp [intOf]; omega
      | false =>
        rw [ha] at hN hsp
        have HN := Lib.hid hN; clear hN ha
        go_wp2
        go_roundw
        case rel => exact ⟨k + 1, v, by go_num, by go_num, by omega, by omega, by rw [HN.out, ← HV.out]; rfl, hb⟩
        case measure => simp [intOf]; omega
    · obtain rfl : k = s.size := by omega
      rw [List.take_of_length_le (by rw [bl_length]; omega)] at HV
      go_wp2
      go_ret
      exact ⟨by rw [← HV.out]; rfl, hb⟩
end Go.Proofs.YtedniebpabfglaaGreatDoor
end
section
namespace Go.Proofs.YtedniebpabfglaaGreatDoor
open Go.RowKit

/-- A name, or nothing. -/
structure Bare (s : ByteArray) : Prop where
  nc : ∀ x ∈ bl s, Pl.isNC x = true
  head : ∀ h : 0 < s.size, Pl.isLet s[0] = true
  size : s.size ≤ 43
theorem bare_name {s : ByteArray} (h : Pl.isName (bl s) = true) : Bare s := by
  refine ⟨fun x hx => Pl.isName_mem h x hx, fun hp => ?_, by rw [← bl_length]; exact Pl.name_len h⟩
  obtain ⟨c, r, e, hl⟩ := Pl.name_head h
  have := bl_get s 0 hp
  rw [← this]
  simp only [e, List.getElem_cons_zero]
  exact hl
theorem bare_nil : Bare ⟨#[]⟩ := ⟨by intro x hx; simp [bl] at hx, fun h => absurd h (by decide), by decide⟩
theorem Bare.at_ {s : ByteArray} (h : Bare s) (j : Nat) (hj : j < s.size) : Pl.isNC s[j] = true := by
  have := h.nc (bl s)[j] (List.getElem_mem (by rw [bl_length]; exact hj))
  rw [bl_get s j hj] at this
  exact this
theorem not_let {c : UInt8} (h : (48 ≤ (c.toNat : Int) ∧ (c.toNat : Int) ≤ 57) ∨ (c.toNat : Int) = 46) : Pl.isLet c = false := by
  unfold Pl.isLet
  simp only [Bool.or_eq_false_iff, Bool.and_eq_false_iff, decide_eq_false_iff_not]
  omega
theorem uri_class (c : UInt8) (h : Pl.uriC c = true) : (65 ≤ (c.toNat : Int) ∧ (c.toNat : Int) ≤ 90) ∨ (97 ≤ (c.toNat : Int) ∧ (c.toNat : Int) ≤ 122) ∨ (48 ≤ (c.toNat : Int) ∧ (c.toNat : Int) ≤ 57) ∨ (c.toNat : Int) = 46 ∨ (c.toNat : Int) = 58 ∨ (c.toNat : Int) = 47 := by
  unfold Pl.uriC at h
  simp only [Bool.or_eq_true, beq_iff_eq] at h
  rcases h with (h | rfl) | rfl
  · rcases nc_class c h with h | h | h | h
    · exact .inl h
    · exact .inr (.inl h)
    · exact .inr (.inr (.inl h))
    · exact .inr (.inr (.inr (.inl h)))
  · exact .inr (.inr (.inr (.inr (.inl rfl))))
  · exact .inr (.inr (.inr (.inr (.inr rfl))))

theorem bare_case {s : ByteArray} (hb : Bare s) : (s.size : Int) < 2 ∨ (¬ (s.size : Int) < 2 ∧ ((s.extract 0 2).toList == [47, 47]) = false) := by
  by_cases h : (s.size : Int) < 2
  · exact .inl h
  · refine .inr ⟨h, ?_⟩
    rw [toList_bl, bl_extract, beq_eq_false_iff_ne]
    intro h2
    have h3 : (47 : UInt8) ∈ bl s := by
      have : (47 : UInt8) ∈ ((bl s).drop 0).take (2 - 0) := by rw [h2]; simp
      exact List.mem_of_mem_take (by simpa using this)
    have h4 := hb.nc 47 h3
    revert h4; decide
theorem get_bl {s : ByteArray} {k : Nat} {c : UInt8} (h : (bl s)[k]? = some c) : ∃ hk : k < s.size, s[k] = c := by
  have hk : k < (bl s).length := by
    rcases Nat.lt_or_ge k (bl s).length with hk | hk
    · exact hk
    · rw [List.getElem?_eq_none hk] at h; cases h
  have hk2 : k < s.size := by rw [← bl_length]; exact hk
  refine ⟨hk2, ?_⟩
  rw [List.getElem?_eq_getElem hk, bl_get s k hk2] at h
  injection h
theorem rest_host {s : ByteArray} {k : Nat} {h p : List UInt8} (hp : Pl.HostP (bl s) k h p) :
    (s.extract (k + 1) s.size).size ≤ 120 ∧ ¬ ((s.extract (k + 1) s.size).size : Int) < 2 ∧ (((s.extract (k + 1) s.size).extract 0 2).toList == [47, 47]) = true ∧ (Pl.cutAt 47 (bl ((s.extract (k + 1) s.size).extract 2 (s.extract (k + 1) s.size).size))).1 = h := by
  have hlen := hp.len
  rw [bl_length] at hlen
  have e1 : bl (s.extract (k + 1) s.size) = (bl s).drop (k + 1) := by
    rw [bl_extract, List.take_of_length_le (by rw [List.length_drop, bl_length]; omega)]
  have hsl := hp.sl
  have h2 : 2 ≤ ((bl s).drop (k + 1)).length := by
    have := congrArg List.length hsl
    rw [List.length_take] at this
    have h3 : min 2 ((bl s).drop (k + 1)).length = 2 := this
    omega
  have e2 : (s.extract (k + 1) s.size).size = ((bl s).drop (k + 1)).length := by rw [← e1, bl_length]
  refine ⟨by rw [ByteArray.size_extract]; omega, by rw [e2]; omega, ?_, ?_⟩
  · rw [toList_bl, bl_extract, e1, List.drop_zero]
    simpa using hsl
  · rw [bl_extract, e1, List.take_of_length_le (by rw [e2, List.length_drop]; exact Nat.le_refl _), List.drop_drop]
    exact hp.host
end Go.Proofs.YtedniebpabfglaaGreatDoor
end
section
namespace Go.Proofs.YtedniebpabfglaaGreatDoor
open Go.RowKit

/-- A URI behind a new pointer; no error. -/
def UrlPost (sc : ByteArray) (w : World) (e : Ending) (w' : World) : Prop := ∃ b, e = .returned (.tuple #[.pointer (some ⟨b, 0, none⟩), .string sc, .nilIface]) ∧ Ext w w'
end Go.Proofs.YtedniebpabfglaaGreatDoor
end
