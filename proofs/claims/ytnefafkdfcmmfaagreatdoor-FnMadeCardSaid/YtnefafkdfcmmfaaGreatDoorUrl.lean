/- The walks of zzCut and zzCount, of a part of one sign. The walks of zzScheme and ZZTaken at names, at the empty text and at URIs. The walks of zzURL and ZZURI at names and at URIs. -/
import Derived.Test.YtnefafkdfcmmfaaGreatDoorLookup
import Derived.Test.YtnefafkdfcmmfaaGreatDoorHost
section
namespace Go.Proofs.YtnefafkdfcmmfaaGreatDoor
open Go.RowKit

theorem cut_at_of {l : List UInt8} {c : UInt8} {i : Nat} (hi : i < l.length) (ha : Pl.at_ l [c] i = true) (hn : ∀ j, j < i → Pl.at_ l [c] j = false) :
    Pl.cutAt c l = (l.take i, l.drop (i + 1), true) := by
  rw [Pl.at_one, List.getElem?_eq_getElem hi] at ha
  have hc : l[i] = c := by simpa using ha
  have h := Pl.cutAt_at c (l.take i) (l.drop (i + 1)) (fun x hx => by
    obtain ⟨j, hj, rfl⟩ := List.mem_iff_getElem.1 hx
    rw [List.length_take] at hj
    have h1 := hn j (by omega)
    rw [Pl.at_one, List.getElem?_eq_getElem (by omega)] at h1
    rw [List.getElem_take]
    intro e
    rw [e] at h1
    simp at h1)
  have e : l.take i ++ c :: l.drop (i + 1) = l := by
    rw [← hc, ← List.drop_eq_getElem_cons hi, List.take_append_drop]
  rw [e] at h
  exact h
set_option maxHeartbeats 1000000 in
theorem zzCut_any (s p : ByteArray) (c : UInt8) (w : World) (hs : s.size ≤ 2147483647) (hp : bl p = [c]) (hp1 : p.size = 1) :
    Calls Tryz.prog 117 #[.string s, .string p] w (CutPost s c w) := by
  have HP := Lib.hid hp; clear hp
  go_enter Tryz.func117, Tryz.ntmps117
  go_wp2_with fail
  refine (zzIndex_any _ _ _ (by omega) (by omega)).mono ?_
  rintro e w1 ⟨k, rfl, hk, hb⟩
  rw [HP.out] at hk
  rcases hk with ⟨rfl, hk⟩ | ⟨i, rfl, hi, ha, hk⟩
  · have HC : Hid (Pl.cutAt c (bl s) = (bl s, [], false)) := Pl.cutAt_none c (bl s) (fun x hx e => by
      subst e
      rw [Pl.has_one hx] at hk; cases hk)
    clear hk
    go_wp2
    go_ret3
    exact ⟨s, ⟨#[]⟩, (by rw [HC.out]; rfl), by rw [HC.out], by rw [HC.out], by omega, by show (0 : Nat) ≤ _; omega, hb⟩
  · have hi1 : i + 1 ≤ s.size := by omega
    have HC := Lib.hid (cut_at_of (by rw [bl_length]; omega) ha hk)
    have hi0 : (i : Int) ≤ (s.size : Int) := by omega
    have hi2 : (i : Int) + 1 ≤ (s.size : Int) := by omega
    have hw1 : IntKind.i64.wrap ((i : Int) + 1) = ((i + 1 : Nat) : Int) := by rw [IntWalk.i64_in _ (by omega)]; rfl
    clear hk ha hi
    go_wp2
    go_quiet (fail)
    go_wp2
    go_ret3
    refine ⟨s.extract 0 i, s.extract (i + 1) s.size, (by rw [HC.out]; rfl), ?_, ?_, ?_, ?_, hb.drewN _⟩
    · rw [HC.out, bl_extract]; rfl
    · rw [HC.out, bl_extract, List.take_of_length_le (by rw [List.length_drop, bl_length]; omega)]
    · rw [ByteArray.size_extract]; omega
    · rw [ByteArray.size_extract]; omega
theorem count_next {l : List UInt8} {c : UInt8} {k : Nat} (hk : k < l.length) : (l.take (k + 1)).count c = (l.take k).count c + (if Pl.at_ l [c] k then 1 else 0) := by
  rw [List.take_succ_eq_append_getElem hk, List.count_append, Pl.at_one, List.getElem?_eq_getElem hk]
  by_cases h : l[k] = c
  · rw [h]; simp
  · have e0 : [l[k]].count c = 0 := List.count_eq_zero.2 (by rw [List.mem_singleton]; exact fun e => h e.symm)
    rw [e0, if_neg (by simpa using h)]
set_option maxHeartbeats 1000000 in
theorem zzCount_any (s p : ByteArray) (c : UInt8) (w : World) (hs : s.size ≤ 2147483647) (hp : bl p = [c]) (hp1 : p.size = 1) :
    Calls Tryz.prog 119 #[.string s, .string p] w (fun e w' => e = .returned (.int .i64 ((bl s).count c : Nat)) ∧ Ext w w') := by
  have HP := Lib.hid hp; clear hp
  go_enter Tryz.func119, Tryz.ntmps119
  go_wp2
  go_loopw [5, 6] (fun n i wr => ∃ (k v : Nat), n = .int .i64 v ∧ i = .int .i64 k ∧ k ≤ s.size ∧ v ≤ k ∧ v = ((bl s).take k).count c ∧ Ext w wr) (fun _ i _ => s.size - (intOf i).toNat)
  case atStart => exact ⟨0, 0, rfl, rfl, by omega, by omega, by simp, Ext.refl w⟩
  case round =>
    obtain ⟨k, v, rfl, rfl, hk, hv, hvv, hb⟩ := hrel
    have HV := Lib.hid hvv; clear hvv
    by_cases hlt : k < s.size
    · have hkl : k < (bl s).length := by rw [bl_length]; exact hlt
      have hle : (k : Int) + 1 ≤ (s.size : Int) := by omega
      have hN := count_next (c := c) hkl
      have hsp := at_spell s p k
      rw [HP.out, hp1] at hsp
      cases ha : Pl.at_ (bl s) [c] k with
      | true =>
        rw [ha] at hN hsp
        have HN := Lib.hid hN; clear hN ha
        go_wp2
        go_roundw
        case rel => exact ⟨k + 1, v + 1, by go_num, by go_num, by omega, by omega, by rw [HN.out, ← HV.out]; rfl, hb⟩
        case measure => simp [intOf]; omega
      | false =>
        rw [ha] at hN hsp
        have HN := Lib.hid hN; clear hN ha
        go_wp2
        go_roundw
        case rel => exact ⟨k + 1, v, by go_num, by go_num, by omega, by omega, by rw [HN.out, ← HV.out]; rfl, hb⟩
        case measure => simp [intOf]; omega
    · obtain rfl : k = s.size := by omega
      rw [List.take_of_length_le (by rw [bl_length]; omega)] at HV
      go_wp2
      go_ret
      exact ⟨by rw [← HV.out]; rfl, hb⟩
end Go.Proofs.YtnefafkdfcmmfaaGreatDoor
end
section
namespace Go.Proofs.YtnefafkdfcmmfaaGreatDoor
open Go.RowKit

/-- A name, or nothing. -/
structure Bare (s : ByteArray) : Prop where
  nc : ∀ x ∈ bl s, Pl.isNC x = true
  head : ∀ h : 0 < s.size, Pl.isLet s[0] = true
  size : s.size ≤ 43
theorem bare_name {s : ByteArray} (h : Pl.isName (bl s) = true) : Bare s := by
  refine ⟨fun x hx => Pl.isName_mem h x hx, fun hp => ?_, by rw [← bl_length]; exact Pl.name_len h⟩
  obtain ⟨c, r, e, hl⟩ := Pl.name_head h
  have := bl_get s 0 hp
  rw [← this]
  simp only [e, List.getElem_cons_zero]
  exact hl
theorem bare_nil : Bare ⟨#[]⟩ := ⟨by intro x hx; simp [bl] at hx, fun h => absurd h (by decide), by decide⟩
theorem Bare.at_ {s : ByteArray} (h : Bare s) (j : Nat) (hj : j < s.size) : Pl.isNC s[j] = true := by
  have := h.nc (bl s)[j] (List.getElem_mem (by rw [bl_length]; exact hj))
  rw [bl_get s j hj] at this
  exact this
theorem not_let {c : UInt8} (h : (48 ≤ (c.toNat : Int) ∧ (c.toNat : Int) ≤ 57) ∨ (c.toNat : Int) = 46) : Pl.isLet c = false := by
  unfold Pl.isLet
  simp only [Bool.or_eq_false_iff, Bool.and_eq_false_iff, decide_eq_false_iff_not]
  omega
theorem uri_class (c : UInt8) (h : Pl.uriC c = true) : (65 ≤ (c.toNat : Int) ∧ (c.toNat : Int) ≤ 90) ∨ (97 ≤ (c.toNat : Int) ∧ (c.toNat : Int) ≤ 122) ∨ (48 ≤ (c.toNat : Int) ∧ (c.toNat : Int) ≤ 57) ∨ (c.toNat : Int) = 46 ∨ (c.toNat : Int) = 58 ∨ (c.toNat : Int) = 47 := by
  unfold Pl.uriC at h
  simp only [Bool.or_eq_true, beq_iff_eq] at h
  rcases h with (h | rfl) | rfl
  · rcases nc_class c h with h | h | h | h
    · exact .inl h
    · exact .inr (.inl h)
    · exact .inr (.inr (.inl h))
    · exact .inr (.inr (.inr (.inl h)))
  · exact .inr (.inr (.inr (.inr (.inl rfl))))
  · exact .inr (.inr (.inr (.inr (.inr rfl))))

set_option maxHeartbeats 8000000 in
set_option maxRecDepth 100000 in
theorem zzScheme_any (s : ByteArray) (w : World) (hb : Bare s) :
    Calls Tryz.prog 116 #[.string s] w (fun e w' => e = .returned (.tuple #[.string ⟨#[]⟩, .string s, .nilIface]) ∧ w' = w) := by
  obtain ⟨k, hk⟩ : ∃ k, k = s.size := ⟨_, rfl⟩
  have HB : Hid (∀ j, j < k → (h : j < s.size) → Pl.isNC s[j] = true) := fun j _ h => hb.at_ j h
  have HH : Hid (0 < k → (h : 0 < s.size) → Pl.isLet s[0] = true) := fun _ h => hb.head h
  have hsz := hb.size
  clear hb
  go_enter Tryz.func116, Tryz.ntmps116
  go_wp2
  go_loopw [5, 6, 17, 32] (fun i _ _ _ wr => ∃ j : Nat, i = .int .i64 j ∧ j ≤ k ∧ wr = w) (fun i _ _ _ _ => k - (intOf i).toNat)
  case atStart => exact ⟨0, rfl, by omega, rfl⟩
  case round =>
    obtain ⟨j, rfl, hj, rfl⟩ := hrel
    by_cases hlt0 : j < k
    · have hlt : j < s.size := by omega
      have hcl := nc_class s[j] (HB.out j hlt0 hlt)
      have hj0 : (48 ≤ ((s[j]).toNat : Int) ∧ ((s[j]).toNat : Int) ≤ 57) ∨ ((s[j]).toNat : Int) = 46 → ((j : Int) == 0) = false := by
        intro h
        rw [beq_eq_false_iff_ne]
        intro h0
        have h1 : j = 0 := by omega
        subst h1
        have := HH.out hlt0 hlt
        rw [not_let h] at this
        cases this
      rcases hcl with h | h | h | h
      · -- up
        clear hj0
        have g97 : ¬ (97 : Int) ≤ ((s[j]).toNat : Int) := by first | omega | (rw [beq_eq_false_iff_ne]; omega) | (rw [beq_iff_eq]; omega)
        have g65 : (65 : Int) ≤ ((s[j]).toNat : Int) := by first | omega | (rw [beq_eq_false_iff_ne]; omega) | (rw [beq_iff_eq]; omega)
        have l90 : ((s[j]).toNat : Int) ≤ (90 : Int) := by first | omega | (rw [beq_eq_false_iff_ne]; omega) | (rw [beq_iff_eq]; omega)
        have g48 : (48 : Int) ≤ ((s[j]).toNat : Int) := by first | omega | (rw [beq_eq_false_iff_ne]; omega) | (rw [beq_iff_eq]; omega)
        have l57 : ¬ ((s[j]).toNat : Int) ≤ (57 : Int) := by first | omega | (rw [beq_eq_false_iff_ne]; omega) | (rw [beq_iff_eq]; omega)
        have e43 : (((s[j]).toNat : Int) == 43) = false := by first | omega | (rw [beq_eq_false_iff_ne]; omega) | (rw [beq_iff_eq]; omega)
        have e45 : (((s[j]).toNat : Int) == 45) = false := by first | omega | (rw [beq_eq_false_iff_ne]; omega) | (rw [beq_iff_eq]; omega)
        have e95 : (((s[j]).toNat : Int) == 95) = false := by first | omega | (rw [beq_eq_false_iff_ne]; omega) | (rw [beq_iff_eq]; omega)
        have e64 : (((s[j]).toNat : Int) == 64) = false := by first | omega | (rw [beq_eq_false_iff_ne]; omega) | (rw [beq_iff_eq]; omega)
        have e42 : (((s[j]).toNat : Int) == 42) = false := by first | omega | (rw [beq_eq_false_iff_ne]; omega) | (rw [beq_iff_eq]; omega)
        have e46 : (((s[j]).toNat : Int) == 46) = false := by first | omega | (rw [beq_eq_false_iff_ne]; omega) | (rw [beq_iff_eq]; omega)
        have e58 : (((s[j]).toNat : Int) == 58) = false := by first | omega | (rw [beq_eq_false_iff_ne]; omega) | (rw [beq_iff_eq]; omega)
        have e47 : (((s[j]).toNat : Int) == 47) = false := by first | omega | (rw [beq_eq_false_iff_ne]; omega) | (rw [beq_iff_eq]; omega)
        clear h
        go_wp2
        go_roundw
        case rel => first | exact ⟨j + 1, by go_num, by omega, rfl⟩ | exact ⟨j + 1, by go_num, by omega, trivial⟩
        case measure => simp [intOf]; omega
      · -- lo
        clear hj0
        have g97 : (97 : Int) ≤ ((s[j]).toNat : Int) := by first | omega | (rw [beq_eq_false_iff_ne]; omega) | (rw [beq_iff_eq]; omega)
        have l122 : ((s[j]).toNat : Int) ≤ (122 : Int) := by first | omega | (rw [beq_eq_false_iff_ne]; omega) | (rw [beq_iff_eq]; omega)
        have g48 : (48 : Int) ≤ ((s[j]).toNat : Int) := by first | omega | (rw [beq_eq_false_iff_ne]; omega) | (rw [beq_iff_eq]; omega)
        have l57 : ¬ ((s[j]).toNat : Int) ≤ (57 : Int) := by first | omega | (rw [beq_eq_false_iff_ne]; omega) | (rw [beq_iff_eq]; omega)
        have e43 : (((s[j]).toNat : Int) == 43) = false := by first | omega | (rw [beq_eq_false_iff_ne]; omega) | (rw [beq_iff_eq]; omega)
        have e45 : (((s[j]).toNat : Int) == 45) = false := by first | omega | (rw [beq_eq_false_iff_ne]; omega) | (rw [beq_iff_eq]; omega)
        have e95 : (((s[j]).toNat : Int) == 95) = false := by first | omega | (rw [beq_eq_false_iff_ne]; omega) | (rw [beq_iff_eq]; omega)
        have e64 : (((s[j]).toNat : Int) == 64) = false := by first | omega | (rw [beq_eq_false_iff_ne]; omega) | (rw [beq_iff_eq]; omega)
        have e42 : (((s[j]).toNat : Int) == 42) = false := by first | omega | (rw [beq_eq_false_iff_ne]; omega) | (rw [beq_iff_eq]; omega)
        have e46 : (((s[j]).toNat : Int) == 46) = false := by first | omega | (rw [beq_eq_false_iff_ne]; omega) | (rw [beq_iff_eq]; omega)
        have e58 : (((s[j]).toNat : Int) == 58) = false := by first | omega | (rw [beq_eq_false_iff_ne]; omega) | (rw [beq_iff_eq]; omega)
        have e47 : (((s[j]).toNat : Int) == 47) = false := by first | omega | (rw [beq_eq_false_iff_ne]; omega) | (rw [beq_iff_eq]; omega)
        clear h
        go_wp2
        go_roundw
        case rel => first | exact ⟨j + 1, by go_num, by omega, rfl⟩ | exact ⟨j + 1, by go_num, by omega, trivial⟩
        case measure => simp [intOf]; omega
      · -- di
        have hz := hj0 (.inl h)
        clear hj0
        have g97 : ¬ (97 : Int) ≤ ((s[j]).toNat : Int) := by first | omega | (rw [beq_eq_false_iff_ne]; omega) | (rw [beq_iff_eq]; omega)
        have g65 : ¬ (65 : Int) ≤ ((s[j]).toNat : Int) := by first | omega | (rw [beq_eq_false_iff_ne]; omega) | (rw [beq_iff_eq]; omega)
        have g48 : (48 : Int) ≤ ((s[j]).toNat : Int) := by first | omega | (rw [beq_eq_false_iff_ne]; omega) | (rw [beq_iff_eq]; omega)
        have l57 : ((s[j]).toNat : Int) ≤ (57 : Int) := by first | omega | (rw [beq_eq_false_iff_ne]; omega) | (rw [beq_iff_eq]; omega)
        have e43 : (((s[j]).toNat : Int) == 43) = false := by first | omega | (rw [beq_eq_false_iff_ne]; omega) | (rw [beq_iff_eq]; omega)
        have e45 : (((s[j]).toNat : Int) == 45) = false := by first | omega | (rw [beq_eq_false_iff_ne]; omega) | (rw [beq_iff_eq]; omega)
        have e95 : (((s[j]).toNat : Int) == 95) = false := by first | omega | (rw [beq_eq_false_iff_ne]; omega) | (rw [beq_iff_eq]; omega)
        have e64 : (((s[j]).toNat : Int) == 64) = false := by first | omega | (rw [beq_eq_false_iff_ne]; omega) | (rw [beq_iff_eq]; omega)
        have e42 : (((s[j]).toNat : Int) == 42) = false := by first | omega | (rw [beq_eq_false_iff_ne]; omega) | (rw [beq_iff_eq]; omega)
        have e46 : (((s[j]).toNat : Int) == 46) = false := by first | omega | (rw [beq_eq_false_iff_ne]; omega) | (rw [beq_iff_eq]; omega)
        have e58 : (((s[j]).toNat : Int) == 58) = false := by first | omega | (rw [beq_eq_false_iff_ne]; omega) | (rw [beq_iff_eq]; omega)
        have e47 : (((s[j]).toNat : Int) == 47) = false := by first | omega | (rw [beq_eq_false_iff_ne]; omega) | (rw [beq_iff_eq]; omega)
        clear h
        go_wp2
        go_roundw
        case rel => first | exact ⟨j + 1, by go_num, by omega, rfl⟩ | exact ⟨j + 1, by go_num, by omega, trivial⟩
        case measure => simp [intOf]; omega
      · -- do
        have hz := hj0 (.inr h)
        clear hj0
        have g97 : ¬ (97 : Int) ≤ ((s[j]).toNat : Int) := by first | omega | (rw [beq_eq_false_iff_ne]; omega) | (rw [beq_iff_eq]; omega)
        have g65 : ¬ (65 : Int) ≤ ((s[j]).toNat : Int) := by first | omega | (rw [beq_eq_false_iff_ne]; omega) | (rw [beq_iff_eq]; omega)
        have g48 : ¬ (48 : Int) ≤ ((s[j]).toNat : Int) := by first | omega | (rw [beq_eq_false_iff_ne]; omega) | (rw [beq_iff_eq]; omega)
        have e43 : (((s[j]).toNat : Int) == 43) = false := by first | omega | (rw [beq_eq_false_iff_ne]; omega) | (rw [beq_iff_eq]; omega)
        have e45 : (((s[j]).toNat : Int) == 45) = false := by first | omega | (rw [beq_eq_false_iff_ne]; omega) | (rw [beq_iff_eq]; omega)
        have e95 : (((s[j]).toNat : Int) == 95) = false := by first | omega | (rw [beq_eq_false_iff_ne]; omega) | (rw [beq_iff_eq]; omega)
        have e64 : (((s[j]).toNat : Int) == 64) = false := by first | omega | (rw [beq_eq_false_iff_ne]; omega) | (rw [beq_iff_eq]; omega)
        have e42 : (((s[j]).toNat : Int) == 42) = false := by first | omega | (rw [beq_eq_false_iff_ne]; omega) | (rw [beq_iff_eq]; omega)
        have e46 : (((s[j]).toNat : Int) == 46) = true := by first | omega | (rw [beq_eq_false_iff_ne]; omega) | (rw [beq_iff_eq]; omega)
        have e58 : (((s[j]).toNat : Int) == 58) = false := by first | omega | (rw [beq_eq_false_iff_ne]; omega) | (rw [beq_iff_eq]; omega)
        have e47 : (((s[j]).toNat : Int) == 47) = false := by first | omega | (rw [beq_eq_false_iff_ne]; omega) | (rw [beq_iff_eq]; omega)
        clear h
        go_wp2
        go_roundw
        case rel => first | exact ⟨j + 1, by go_num, by omega, rfl⟩ | exact ⟨j + 1, by go_num, by omega, trivial⟩
        case measure => simp [intOf]; omega
    · obtain rfl : j = k := by omega
      have hge : ¬ (j : Int) < (s.size : Int) := by omega
      clear hk
      go_wp2
      go_ret3
      first | exact ⟨rfl, rfl⟩ | exact ⟨rfl, trivial⟩
set_option maxHeartbeats 8000000 in
set_option maxRecDepth 100000 in
theorem zzScheme_uri (s : ByteArray) (k : Nat) (w : World) (hk0 : 0 < k) (hk : k < s.size) (hsz : s.size ≤ 1000) (hnc : ∀ j, j < k → (h : j < s.size) → Pl.isNC s[j] = true) (hhd : 0 < k → (h : 0 < s.size) → Pl.isLet s[0] = true) (hc : s[k] = 58) :
    Calls Tryz.prog 116 #[.string s] w (fun e w' => e = .returned (.tuple #[.string (s.extract 0 k), .string (s.extract (k + 1) s.size), .nilIface]) ∧ Ext w w') := by
  have HB := Lib.hid hnc
  have HH := Lib.hid hhd
  have HC := Lib.hid hc
  clear hnc hhd hc
  go_enter Tryz.func116, Tryz.ntmps116
  go_wp2
  go_loopw [5, 6, 17, 32] (fun i _ _ _ wr => ∃ j : Nat, i = .int .i64 j ∧ j ≤ k ∧ wr = w) (fun i _ _ _ _ => k - (intOf i).toNat)
  case atStart => exact ⟨0, rfl, by omega, rfl⟩
  case round =>
    obtain ⟨j, rfl, hj, rfl⟩ := hrel
    by_cases hlt0 : j < k
    · have hlt : j < s.size := by omega
      have hcl := nc_class s[j] (HB.out j hlt0 hlt)
      have hj0 : (48 ≤ ((s[j]).toNat : Int) ∧ ((s[j]).toNat : Int) ≤ 57) ∨ ((s[j]).toNat : Int) = 46 → ((j : Int) == 0) = false := by
        intro h
        rw [beq_eq_false_iff_ne]
        intro h0
        have h1 : j = 0 := by omega
        subst h1
        have := HH.out hlt0 hlt
        rw [not_let h] at this
        cases this
      rcases hcl with h | h | h | h
      · -- up
        clear hj0
        have g97 : ¬ (97 : Int) ≤ ((s[j]).toNat : Int) := by first | omega | (rw [beq_eq_false_iff_ne]; omega) | (rw [beq_iff_eq]; omega)
        have g65 : (65 : Int) ≤ ((s[j]).toNat : Int) := by first | omega | (rw [beq_eq_false_iff_ne]; omega) | (rw [beq_iff_eq]; omega)
        have l90 : ((s[j]).toNat : Int) ≤ (90 : Int) := by first | omega | (rw [beq_eq_false_iff_ne]; omega) | (rw [beq_iff_eq]; omega)
        have g48 : (48 : Int) ≤ ((s[j]).toNat : Int) := by first | omega | (rw [beq_eq_false_iff_ne]; omega) | (rw [beq_iff_eq]; omega)
        have l57 : ¬ ((s[j]).toNat : Int) ≤ (57 : Int) := by first | omega | (rw [beq_eq_false_iff_ne]; omega) | (rw [beq_iff_eq]; omega)
        have e43 : (((s[j]).toNat : Int) == 43) = false := by first | omega | (rw [beq_eq_false_iff_ne]; omega) | (rw [beq_iff_eq]; omega)
        have e45 : (((s[j]).toNat : Int) == 45) = false := by first | omega | (rw [beq_eq_false_iff_ne]; omega) | (rw [beq_iff_eq]; omega)
        have e95 : (((s[j]).toNat : Int) == 95) = false := by first | omega | (rw [beq_eq_false_iff_ne]; omega) | (rw [beq_iff_eq]; omega)
        have e64 : (((s[j]).toNat : Int) == 64) = false := by first | omega | (rw [beq_eq_false_iff_ne]; omega) | (rw [beq_iff_eq]; omega)
        have e42 : (((s[j]).toNat : Int) == 42) = false := by first | omega | (rw [beq_eq_false_iff_ne]; omega) | (rw [beq_iff_eq]; omega)
        have e46 : (((s[j]).toNat : Int) == 46) = false := by first | omega | (rw [beq_eq_false_iff_ne]; omega) | (rw [beq_iff_eq]; omega)
        have e58 : (((s[j]).toNat : Int) == 58) = false := by first | omega | (rw [beq_eq_false_iff_ne]; omega) | (rw [beq_iff_eq]; omega)
        have e47 : (((s[j]).toNat : Int) == 47) = false := by first | omega | (rw [beq_eq_false_iff_ne]; omega) | (rw [beq_iff_eq]; omega)
        clear h
        go_wp2
        go_roundw
        case rel => first | exact ⟨j + 1, by go_num, by omega, rfl⟩ | exact ⟨j + 1, by go_num, by omega, trivial⟩
        case measure => simp [intOf]; omega
      · -- lo
        clear hj0
        have g97 : (97 : Int) ≤ ((s[j]).toNat : Int) := by first | omega | (rw [beq_eq_false_iff_ne]; omega) | (rw [beq_iff_eq]; omega)
        have l122 : ((s[j]).toNat : Int) ≤ (122 : Int) := by first | omega | (rw [beq_eq_false_iff_ne]; omega) | (rw [beq_iff_eq]; omega)
        have g48 : (48 : Int) ≤ ((s[j]).toNat : Int) := by first | omega | (rw [beq_eq_false_iff_ne]; omega) | (rw [beq_iff_eq]; omega)
        have l57 : ¬ ((s[j]).toNat : Int) ≤ (57 : Int) := by first | omega | (rw [beq_eq_false_iff_ne]; omega) | (rw [beq_iff_eq]; omega)
        have e43 : (((s[j]).toNat : Int) == 43) = false := by first | omega | (rw [beq_eq_false_iff_ne]; omega) | (rw [beq_iff_eq]; omega)
        have e45 : (((s[j]).toNat : Int) == 45) = false := by first | omega | (rw [beq_eq_false_iff_ne]; omega) | (rw [beq_iff_eq]; omega)
        have e95 : (((s[j]).toNat : Int) == 95) = false := by first | omega | (rw [beq_eq_false_iff_ne]; omega) | (rw [beq_iff_eq]; omega)
        have e64 : (((s[j]).toNat : Int) == 64) = false := by first | omega | (rw [beq_eq_false_iff_ne]; omega) | (rw [beq_iff_eq]; omega)
        have e42 : (((s[j]).toNat : Int) == 42) = false := by first | omega | (rw [beq_eq_false_iff_ne]; omega) | (rw [beq_iff_eq]; omega)
        have e46 : (((s[j]).toNat : Int) == 46) = false := by first | omega | (rw [beq_eq_false_iff_ne]; omega) | (rw [beq_iff_eq]; omega)
        have e58 : (((s[j]).toNat : Int) == 58) = false := by first | omega | (rw [beq_eq_false_iff_ne]; omega) | (rw [beq_iff_eq]; omega)
        have e47 : (((s[j]).toNat : Int) == 47) = false := by first | omega | (rw [beq_eq_false_iff_ne]; omega) | (rw [beq_iff_eq]; omega)
        clear h
        go_wp2
        go_roundw
        case rel => first | exact ⟨j + 1, by go_num, by omega, rfl⟩ | exact ⟨j + 1, by go_num, by omega, trivial⟩
        case measure => simp [intOf]; omega
      · -- di
        have hz := hj0 (.inl h)
        clear hj0
        have g97 : ¬ (97 : Int) ≤ ((s[j]).toNat : Int) := by first | omega | (rw [beq_eq_false_iff_ne]; omega) | (rw [beq_iff_eq]; omega)
        have g65 : ¬ (65 : Int) ≤ ((s[j]).toNat : Int) := by first | omega | (rw [beq_eq_false_iff_ne]; omega) | (rw [beq_iff_eq]; omega)
        have g48 : (48 : Int) ≤ ((s[j]).toNat : Int) := by first | omega | (rw [beq_eq_false_iff_ne]; omega) | (rw [beq_iff_eq]; omega)
        have l57 : ((s[j]).toNat : Int) ≤ (57 : Int) := by first | omega | (rw [beq_eq_false_iff_ne]; omega) | (rw [beq_iff_eq]; omega)
        have e43 : (((s[j]).toNat : Int) == 43) = false := by first | omega | (rw [beq_eq_false_iff_ne]; omega) | (rw [beq_iff_eq]; omega)
        have e45 : (((s[j]).toNat : Int) == 45) = false := by first | omega | (rw [beq_eq_false_iff_ne]; omega) | (rw [beq_iff_eq]; omega)
        have e95 : (((s[j]).toNat : Int) == 95) = false := by first | omega | (rw [beq_eq_false_iff_ne]; omega) | (rw [beq_iff_eq]; omega)
        have e64 : (((s[j]).toNat : Int) == 64) = false := by first | omega | (rw [beq_eq_false_iff_ne]; omega) | (rw [beq_iff_eq]; omega)
        have e42 : (((s[j]).toNat : Int) == 42) = false := by first | omega | (rw [beq_eq_false_iff_ne]; omega) | (rw [beq_iff_eq]; omega)
        have e46 : (((s[j]).toNat : Int) == 46) = false := by first | omega | (rw [beq_eq_false_iff_ne]; omega) | (rw [beq_iff_eq]; omega)
        have e58 : (((s[j]).toNat : Int) == 58) = false := by first | omega | (rw [beq_eq_false_iff_ne]; omega) | (rw [beq_iff_eq]; omega)
        have e47 : (((s[j]).toNat : Int) == 47) = false := by first | omega | (rw [beq_eq_false_iff_ne]; omega) | (rw [beq_iff_eq]; omega)
        clear h
        go_wp2
        go_roundw
        case rel => first | exact ⟨j + 1, by go_num, by omega, rfl⟩ | exact ⟨j + 1, by go_num, by omega, trivial⟩
        case measure => simp [intOf]; omega
      · -- do
        have hz := hj0 (.inr h)
        clear hj0
        have g97 : ¬ (97 : Int) ≤ ((s[j]).toNat : Int) := by first | omega | (rw [beq_eq_false_iff_ne]; omega) | (rw [beq_iff_eq]; omega)
        have g65 : ¬ (65 : Int) ≤ ((s[j]).toNat : Int) := by first | omega | (rw [beq_eq_false_iff_ne]; omega) | (rw [beq_iff_eq]; omega)
        have g48 : ¬ (48 : Int) ≤ ((s[j]).toNat : Int) := by first | omega | (rw [beq_eq_false_iff_ne]; omega) | (rw [beq_iff_eq]; omega)
        have e43 : (((s[j]).toNat : Int) == 43) = false := by first | omega | (rw [beq_eq_false_iff_ne]; omega) | (rw [beq_iff_eq]; omega)
        have e45 : (((s[j]).toNat : Int) == 45) = false := by first | omega | (rw [beq_eq_false_iff_ne]; omega) | (rw [beq_iff_eq]; omega)
        have e95 : (((s[j]).toNat : Int) == 95) = false := by first | omega | (rw [beq_eq_false_iff_ne]; omega) | (rw [beq_iff_eq]; omega)
        have e64 : (((s[j]).toNat : Int) == 64) = false := by first | omega | (rw [beq_eq_false_iff_ne]; omega) | (rw [beq_iff_eq]; omega)
        have e42 : (((s[j]).toNat : Int) == 42) = false := by first | omega | (rw [beq_eq_false_iff_ne]; omega) | (rw [beq_iff_eq]; omega)
        have e46 : (((s[j]).toNat : Int) == 46) = true := by first | omega | (rw [beq_eq_false_iff_ne]; omega) | (rw [beq_iff_eq]; omega)
        have e58 : (((s[j]).toNat : Int) == 58) = false := by first | omega | (rw [beq_eq_false_iff_ne]; omega) | (rw [beq_iff_eq]; omega)
        have e47 : (((s[j]).toNat : Int) == 47) = false := by first | omega | (rw [beq_eq_false_iff_ne]; omega) | (rw [beq_iff_eq]; omega)
        clear h
        go_wp2
        go_roundw
        case rel => first | exact ⟨j + 1, by go_num, by omega, rfl⟩ | exact ⟨j + 1, by go_num, by omega, trivial⟩
        case measure => simp [intOf]; omega
    · obtain rfl : j = k := by omega
      have hlt : j < s.size := hk
      have hz : ((j : Int) == 0) = false := by rw [beq_eq_false_iff_ne]; omega
      have h : ((s[j]).toNat : Int) = 58 := by rw [HC.out]; rfl
      have g97 : ¬ (97 : Int) ≤ ((s[j]).toNat : Int) := by first | omega | (rw [beq_eq_false_iff_ne]; omega) | (rw [beq_iff_eq]; omega)
      have g65 : ¬ (65 : Int) ≤ ((s[j]).toNat : Int) := by first | omega | (rw [beq_eq_false_iff_ne]; omega) | (rw [beq_iff_eq]; omega)
      have g48 : (48 : Int) ≤ ((s[j]).toNat : Int) := by first | omega | (rw [beq_eq_false_iff_ne]; omega) | (rw [beq_iff_eq]; omega)
      have l57 : ¬ ((s[j]).toNat : Int) ≤ (57 : Int) := by first | omega | (rw [beq_eq_false_iff_ne]; omega) | (rw [beq_iff_eq]; omega)
      have e43 : (((s[j]).toNat : Int) == 43) = false := by first | omega | (rw [beq_eq_false_iff_ne]; omega) | (rw [beq_iff_eq]; omega)
      have e45 : (((s[j]).toNat : Int) == 45) = false := by first | omega | (rw [beq_eq_false_iff_ne]; omega) | (rw [beq_iff_eq]; omega)
      have e95 : (((s[j]).toNat : Int) == 95) = false := by first | omega | (rw [beq_eq_false_iff_ne]; omega) | (rw [beq_iff_eq]; omega)
      have e64 : (((s[j]).toNat : Int) == 64) = false := by first | omega | (rw [beq_eq_false_iff_ne]; omega) | (rw [beq_iff_eq]; omega)
      have e42 : (((s[j]).toNat : Int) == 42) = false := by first | omega | (rw [beq_eq_false_iff_ne]; omega) | (rw [beq_iff_eq]; omega)
      have e46 : (((s[j]).toNat : Int) == 46) = false := by first | omega | (rw [beq_eq_false_iff_ne]; omega) | (rw [beq_iff_eq]; omega)
      have e58 : (((s[j]).toNat : Int) == 58) = true := by first | omega | (rw [beq_eq_false_iff_ne]; omega) | (rw [beq_iff_eq]; omega)
      have e47 : (((s[j]).toNat : Int) == 47) = false := by first | omega | (rw [beq_eq_false_iff_ne]; omega) | (rw [beq_iff_eq]; omega)
      have hi0 : (j : Int) ≤ (s.size : Int) := by omega
      have hi2 : (j : Int) + 1 ≤ (s.size : Int) := by omega
      have hw1 : IntKind.i64.wrap ((j : Int) + 1) = ((j + 1 : Nat) : Int) := by rw [IntWalk.i64_in _ (by omega)]; rfl
      clear h hlt0
      go_wp2
      go_quiet (fail)
      go_wp2
      go_ret3
      exact ⟨rfl, (Ext.refl _).drewN _⟩
set_option maxHeartbeats 8000000 in
set_option maxRecDepth 100000 in
theorem zzTaken_gen (s sch re : ByteArray) (w : World) (hu : ∀ x ∈ bl s, Pl.uriC x = true) (hsz : s.size ≤ 1000) (hre : re.size ≤ 1000)
    (hS : ∀ w', Calls Tryz.prog 116 #[.string s] w' (fun e w2 => e = .returned (.tuple #[.string sch, .string re, .nilIface]) ∧ Ext w' w2))
    (hcase : (re.size : Int) < 2 ∨ (¬ (re.size : Int) < 2 ∧ ((re.extract 0 2).toList == [47, 47]) = false) ∨ (¬ (re.size : Int) < 2 ∧ ((re.extract 0 2).toList == [47, 47]) = true ∧ (Pl.cutAt 47 (bl (re.extract 2 re.size))).1.count 58 ≤ 1 ∧ ∀ x ∈ (Pl.cutAt 47 (bl (re.extract 2 re.size))).1, x ≠ 64)) :
    Calls Tryz.prog 67 #[.string s] w (BoolPost true w) := by
  have HB := Lib.hid hu
  have HS := Lib.hid hS
  have HC := Lib.hid hcase
  have hz2 : (re.extract 2 re.size).size ≤ 1000 := by rw [ByteArray.size_extract]; omega
  have HZ2 := Lib.hid hz2
  clear hu hcase hS hz2
  go_enter Tryz.func67, Tryz.ntmps67
  go_wp2
  go_loopw [3, 4] (fun i _ wr => ∃ j : Nat, i = .int .i64 j ∧ j ≤ s.size ∧ wr = w) (fun i _ _ => s.size - (intOf i).toNat)
  case atStart => exact ⟨0, rfl, by omega, rfl⟩
  case round =>
    obtain ⟨j, rfl, hj, rfl⟩ := hrel
    by_cases hlt : j < s.size
    · have hu : Pl.uriC s[j] = true := by
        have := HB.out (bl s)[j] (List.getElem_mem (by rw [bl_length]; exact hlt))
        rw [bl_get s j hlt] at this
        exact this
      have hcl := uri_class s[j] hu
      clear hu
      rcases hcl with h | h | h | h | h | h
      · -- up
        have g97 : ¬ (97 : Int) ≤ ((s[j]).toNat : Int) := by first | omega | (rw [beq_eq_false_iff_ne]; omega) | (rw [beq_iff_eq]; omega)
        have g65 : (65 : Int) ≤ ((s[j]).toNat : Int) := by first | omega | (rw [beq_eq_false_iff_ne]; omega) | (rw [beq_iff_eq]; omega)
        have l90 : ((s[j]).toNat : Int) ≤ (90 : Int) := by first | omega | (rw [beq_eq_false_iff_ne]; omega) | (rw [beq_iff_eq]; omega)
        have g48 : (48 : Int) ≤ ((s[j]).toNat : Int) := by first | omega | (rw [beq_eq_false_iff_ne]; omega) | (rw [beq_iff_eq]; omega)
        have l57 : ¬ ((s[j]).toNat : Int) ≤ (57 : Int) := by first | omega | (rw [beq_eq_false_iff_ne]; omega) | (rw [beq_iff_eq]; omega)
        have e43 : (((s[j]).toNat : Int) == 43) = false := by first | omega | (rw [beq_eq_false_iff_ne]; omega) | (rw [beq_iff_eq]; omega)
        have e45 : (((s[j]).toNat : Int) == 45) = false := by first | omega | (rw [beq_eq_false_iff_ne]; omega) | (rw [beq_iff_eq]; omega)
        have e95 : (((s[j]).toNat : Int) == 95) = false := by first | omega | (rw [beq_eq_false_iff_ne]; omega) | (rw [beq_iff_eq]; omega)
        have e64 : (((s[j]).toNat : Int) == 64) = false := by first | omega | (rw [beq_eq_false_iff_ne]; omega) | (rw [beq_iff_eq]; omega)
        have e42 : (((s[j]).toNat : Int) == 42) = false := by first | omega | (rw [beq_eq_false_iff_ne]; omega) | (rw [beq_iff_eq]; omega)
        have e46 : (((s[j]).toNat : Int) == 46) = false := by first | omega | (rw [beq_eq_false_iff_ne]; omega) | (rw [beq_iff_eq]; omega)
        have e58 : (((s[j]).toNat : Int) == 58) = false := by first | omega | (rw [beq_eq_false_iff_ne]; omega) | (rw [beq_iff_eq]; omega)
        have e47 : (((s[j]).toNat : Int) == 47) = false := by first | omega | (rw [beq_eq_false_iff_ne]; omega) | (rw [beq_iff_eq]; omega)
        clear h
        go_wp2
        go_roundw
        case rel => first | exact ⟨j + 1, by go_num, by omega, rfl⟩ | exact ⟨j + 1, by go_num, by omega, trivial⟩
        case measure => simp [intOf]; omega
      · -- lo
        have g97 : (97 : Int) ≤ ((s[j]).toNat : Int) := by first | omega | (rw [beq_eq_false_iff_ne]; omega) | (rw [beq_iff_eq]; omega)
        have l122 : ((s[j]).toNat : Int) ≤ (122 : Int) := by first | omega | (rw [beq_eq_false_iff_ne]; omega) | (rw [beq_iff_eq]; omega)
        have g48 : (48 : Int) ≤ ((s[j]).toNat : Int) := by first | omega | (rw [beq_eq_false_iff_ne]; omega) | (rw [beq_iff_eq]; omega)
        have l57 : ¬ ((s[j]).toNat : Int) ≤ (57 : Int) := by first | omega | (rw [beq_eq_false_iff_ne]; omega) | (rw [beq_iff_eq]; omega)
        have e43 : (((s[j]).toNat : Int) == 43) = false := by first | omega | (rw [beq_eq_false_iff_ne]; omega) | (rw [beq_iff_eq]; omega)
        have e45 : (((s[j]).toNat : Int) == 45) = false := by first | omega | (rw [beq_eq_false_iff_ne]; omega) | (rw [beq_iff_eq]; omega)
        have e95 : (((s[j]).toNat : Int) == 95) = false := by first | omega | (rw [beq_eq_false_iff_ne]; omega) | (rw [beq_iff_eq]; omega)
        have e64 : (((s[j]).toNat : Int) == 64) = false := by first | omega | (rw [beq_eq_false_iff_ne]; omega) | (rw [beq_iff_eq]; omega)
        have e42 : (((s[j]).toNat : Int) == 42) = false := by first | omega | (rw [beq_eq_false_iff_ne]; omega) | (rw [beq_iff_eq]; omega)
        have e46 : (((s[j]).toNat : Int) == 46) = false := by first | omega | (rw [beq_eq_false_iff_ne]; omega) | (rw [beq_iff_eq]; omega)
        have e58 : (((s[j]).toNat : Int) == 58) = false := by first | omega | (rw [beq_eq_false_iff_ne]; omega) | (rw [beq_iff_eq]; omega)
        have e47 : (((s[j]).toNat : Int) == 47) = false := by first | omega | (rw [beq_eq_false_iff_ne]; omega) | (rw [beq_iff_eq]; omega)
        clear h
        go_wp2
        go_roundw
        case rel => first | exact ⟨j + 1, by go_num, by omega, rfl⟩ | exact ⟨j + 1, by go_num, by omega, trivial⟩
        case measure => simp [intOf]; omega
      · -- di
        have g97 : ¬ (97 : Int) ≤ ((s[j]).toNat : Int) := by first | omega | (rw [beq_eq_false_iff_ne]; omega) | (rw [beq_iff_eq]; omega)
        have g65 : ¬ (65 : Int) ≤ ((s[j]).toNat : Int) := by first | omega | (rw [beq_eq_false_iff_ne]; omega) | (rw [beq_iff_eq]; omega)
        have g48 : (48 : Int) ≤ ((s[j]).toNat : Int) := by first | omega | (rw [beq_eq_false_iff_ne]; omega) | (rw [beq_iff_eq]; omega)
        have l57 : ((s[j]).toNat : Int) ≤ (57 : Int) := by first | omega | (rw [beq_eq_false_iff_ne]; omega) | (rw [beq_iff_eq]; omega)
        have e43 : (((s[j]).toNat : Int) == 43) = false := by first | omega | (rw [beq_eq_false_iff_ne]; omega) | (rw [beq_iff_eq]; omega)
        have e45 : (((s[j]).toNat : Int) == 45) = false := by first | omega | (rw [beq_eq_false_iff_ne]; omega) | (rw [beq_iff_eq]; omega)
        have e95 : (((s[j]).toNat : Int) == 95) = false := by first | omega | (rw [beq_eq_false_iff_ne]; omega) | (rw [beq_iff_eq]; omega)
        have e64 : (((s[j]).toNat : Int) == 64) = false := by first | omega | (rw [beq_eq_false_iff_ne]; omega) | (rw [beq_iff_eq]; omega)
        have e42 : (((s[j]).toNat : Int) == 42) = false := by first | omega | (rw [beq_eq_false_iff_ne]; omega) | (rw [beq_iff_eq]; omega)
        have e46 : (((s[j]).toNat : Int) == 46) = false := by first | omega | (rw [beq_eq_false_iff_ne]; omega) | (rw [beq_iff_eq]; omega)
        have e58 : (((s[j]).toNat : Int) == 58) = false := by first | omega | (rw [beq_eq_false_iff_ne]; omega) | (rw [beq_iff_eq]; omega)
        have e47 : (((s[j]).toNat : Int) == 47) = false := by first | omega | (rw [beq_eq_false_iff_ne]; omega) | (rw [beq_iff_eq]; omega)
        clear h
        go_wp2
        go_roundw
        case rel => first | exact ⟨j + 1, by go_num, by omega, rfl⟩ | exact ⟨j + 1, by go_num, by omega, trivial⟩
        case measure => simp [intOf]; omega
      · -- do
        have g97 : ¬ (97 : Int) ≤ ((s[j]).toNat : Int) := by first | omega | (rw [beq_eq_false_iff_ne]; omega) | (rw [beq_iff_eq]; omega)
        have g65 : ¬ (65 : Int) ≤ ((s[j]).toNat : Int) := by first | omega | (rw [beq_eq_false_iff_ne]; omega) | (rw [beq_iff_eq]; omega)
        have g48 : ¬ (48 : Int) ≤ ((s[j]).toNat : Int) := by first | omega | (rw [beq_eq_false_iff_ne]; omega) | (rw [beq_iff_eq]; omega)
        have e43 : (((s[j]).toNat : Int) == 43) = false := by first | omega | (rw [beq_eq_false_iff_ne]; omega) | (rw [beq_iff_eq]; omega)
        have e45 : (((s[j]).toNat : Int) == 45) = false := by first | omega | (rw [beq_eq_false_iff_ne]; omega) | (rw [beq_iff_eq]; omega)
        have e95 : (((s[j]).toNat : Int) == 95) = false := by first | omega | (rw [beq_eq_false_iff_ne]; omega) | (rw [beq_iff_eq]; omega)
        have e64 : (((s[j]).toNat : Int) == 64) = false := by first | omega | (rw [beq_eq_false_iff_ne]; omega) | (rw [beq_iff_eq]; omega)
        have e42 : (((s[j]).toNat : Int) == 42) = false := by first | omega | (rw [beq_eq_false_iff_ne]; omega) | (rw [beq_iff_eq]; omega)
        have e46 : (((s[j]).toNat : Int) == 46) = true := by first | omega | (rw [beq_eq_false_iff_ne]; omega) | (rw [beq_iff_eq]; omega)
        have e58 : (((s[j]).toNat : Int) == 58) = false := by first | omega | (rw [beq_eq_false_iff_ne]; omega) | (rw [beq_iff_eq]; omega)
        have e47 : (((s[j]).toNat : Int) == 47) = false := by first | omega | (rw [beq_eq_false_iff_ne]; omega) | (rw [beq_iff_eq]; omega)
        clear h
        go_wp2
        go_roundw
        case rel => first | exact ⟨j + 1, by go_num, by omega, rfl⟩ | exact ⟨j + 1, by go_num, by omega, trivial⟩
        case measure => simp [intOf]; omega
      · -- co
        have g97 : ¬ (97 : Int) ≤ ((s[j]).toNat : Int) := by first | omega | (rw [beq_eq_false_iff_ne]; omega) | (rw [beq_iff_eq]; omega)
        have g65 : ¬ (65 : Int) ≤ ((s[j]).toNat : Int) := by first | omega | (rw [beq_eq_false_iff_ne]; omega) | (rw [beq_iff_eq]; omega)
        have g48 : (48 : Int) ≤ ((s[j]).toNat : Int) := by first | omega | (rw [beq_eq_false_iff_ne]; omega) | (rw [beq_iff_eq]; omega)
        have l57 : ¬ ((s[j]).toNat : Int) ≤ (57 : Int) := by first | omega | (rw [beq_eq_false_iff_ne]; omega) | (rw [beq_iff_eq]; omega)
        have e43 : (((s[j]).toNat : Int) == 43) = false := by first | omega | (rw [beq_eq_false_iff_ne]; omega) | (rw [beq_iff_eq]; omega)
        have e45 : (((s[j]).toNat : Int) == 45) = false := by first | omega | (rw [beq_eq_false_iff_ne]; omega) | (rw [beq_iff_eq]; omega)
        have e95 : (((s[j]).toNat : Int) == 95) = false := by first | omega | (rw [beq_eq_false_iff_ne]; omega) | (rw [beq_iff_eq]; omega)
        have e64 : (((s[j]).toNat : Int) == 64) = false := by first | omega | (rw [beq_eq_false_iff_ne]; omega) | (rw [beq_iff_eq]; omega)
        have e42 : (((s[j]).toNat : Int) == 42) = false := by first | omega | (rw [beq_eq_false_iff_ne]; omega) | (rw [beq_iff_eq]; omega)
        have e46 : (((s[j]).toNat : Int) == 46) = false := by first | omega | (rw [beq_eq_false_iff_ne]; omega) | (rw [beq_iff_eq]; omega)
        have e58 : (((s[j]).toNat : Int) == 58) = true := by first | omega | (rw [beq_eq_false_iff_ne]; omega) | (rw [beq_iff_eq]; omega)
        have e47 : (((s[j]).toNat : Int) == 47) = false := by first | omega | (rw [beq_eq_false_iff_ne]; omega) | (rw [beq_iff_eq]; omega)
        clear h
        go_wp2
        go_roundw
        case rel => first | exact ⟨j + 1, by go_num, by omega, rfl⟩ | exact ⟨j + 1, by go_num, by omega, trivial⟩
        case measure => simp [intOf]; omega
      · -- sl
        have g97 : ¬ (97 : Int) ≤ ((s[j]).toNat : Int) := by first | omega | (rw [beq_eq_false_iff_ne]; omega) | (rw [beq_iff_eq]; omega)
        have g65 : ¬ (65 : Int) ≤ ((s[j]).toNat : Int) := by first | omega | (rw [beq_eq_false_iff_ne]; omega) | (rw [beq_iff_eq]; omega)
        have g48 : ¬ (48 : Int) ≤ ((s[j]).toNat : Int) := by first | omega | (rw [beq_eq_false_iff_ne]; omega) | (rw [beq_iff_eq]; omega)
        have e43 : (((s[j]).toNat : Int) == 43) = false := by first | omega | (rw [beq_eq_false_iff_ne]; omega) | (rw [beq_iff_eq]; omega)
        have e45 : (((s[j]).toNat : Int) == 45) = false := by first | omega | (rw [beq_eq_false_iff_ne]; omega) | (rw [beq_iff_eq]; omega)
        have e95 : (((s[j]).toNat : Int) == 95) = false := by first | omega | (rw [beq_eq_false_iff_ne]; omega) | (rw [beq_iff_eq]; omega)
        have e64 : (((s[j]).toNat : Int) == 64) = false := by first | omega | (rw [beq_eq_false_iff_ne]; omega) | (rw [beq_iff_eq]; omega)
        have e42 : (((s[j]).toNat : Int) == 42) = false := by first | omega | (rw [beq_eq_false_iff_ne]; omega) | (rw [beq_iff_eq]; omega)
        have e46 : (((s[j]).toNat : Int) == 46) = false := by first | omega | (rw [beq_eq_false_iff_ne]; omega) | (rw [beq_iff_eq]; omega)
        have e58 : (((s[j]).toNat : Int) == 58) = false := by first | omega | (rw [beq_eq_false_iff_ne]; omega) | (rw [beq_iff_eq]; omega)
        have e47 : (((s[j]).toNat : Int) == 47) = true := by first | omega | (rw [beq_eq_false_iff_ne]; omega) | (rw [beq_iff_eq]; omega)
        clear h
        go_wp2
        go_roundw
        case rel => first | exact ⟨j + 1, by go_num, by omega, rfl⟩ | exact ⟨j + 1, by go_num, by omega, trivial⟩
        case measure => simp [intOf]; omega
    · go_wp2_with fail
      refine (HS.out _).mono ?_
      rintro e w0 ⟨rfl, hb0⟩
      have HB0 := Lib.hid hb0; clear hb0
      rcases HC.out with h2 | ⟨h2, h3⟩ | ⟨h2, h3, h4, h5⟩
      · go_wp2
        go_ret
        exact ⟨rfl, HB0.out⟩
      · go_wp2
        go_ret
        exact ⟨rfl, HB0.out⟩
      · have H4 := Lib.hid h4; have H5 := Lib.hid h5
        clear h4 h5
        obtain ⟨r2, hr2⟩ : ∃ y, y = re.extract 2 re.size := ⟨_, rfl⟩
        rw [← hr2] at H4 H5 HZ2
        have HR2 := Lib.hid hr2; clear hr2
        go_wp2_with fail
        rw [← HR2.out]
        refine (zzCut_any r2 ⟨#[47]⟩ 47 _ (by have := HZ2.out; omega) rfl rfl).mono ?_
        rintro e w1 ⟨ho, pa, rfl, hA, hB, hAs, hBs, hb1⟩
        rw [← hA] at H4 H5
        have hzh : ho.size ≤ 1000 := by have := HZ2.out; omega
        have HB1 := Lib.hid (HB0.out.tr hb1)
        clear hA hB hAs hBs hb1
        have h64 : Hid (Pl.has (bl ho) (bl ⟨#[64]⟩) = false) := Pl.has_no 64 (by decide) (fun hm => H5.out 64 hm rfl)
        go_wp2_with fail
        refine (zzContains_any ho ⟨#[64]⟩ _ (by omega) (by decide)).mono ?_
        rintro e w2 ⟨rfl, hb2⟩
        rw [h64.out]
        have HB2 := Lib.hid (HB1.out.tr hb2); clear hb2
        go_wp2_with fail
        refine (zzCount_any ho ⟨#[58]⟩ 58 _ (by omega) rfl rfl).mono ?_
        rintro e w3 ⟨rfl, hb3⟩
        have HB3 := Lib.hid (HB2.out.tr hb3); clear hb3
        have hle : (((bl ho).count 58 : Nat) : Int) ≤ 1 := by have := H4.out; omega
        generalize (bl ho).count 58 = cn at hle ⊢
        go_wp2
        go_ret
        exact ⟨rfl, HB3.out⟩
theorem bare_case {s : ByteArray} (hb : Bare s) : (s.size : Int) < 2 ∨ (¬ (s.size : Int) < 2 ∧ ((s.extract 0 2).toList == [47, 47]) = false) := by
  by_cases h : (s.size : Int) < 2
  · exact .inl h
  · refine .inr ⟨h, ?_⟩
    rw [toList_bl, bl_extract, beq_eq_false_iff_ne]
    intro h2
    have h3 : (47 : UInt8) ∈ bl s := by
      have : (47 : UInt8) ∈ ((bl s).drop 0).take (2 - 0) := by rw [h2]; simp
      exact List.mem_of_mem_take (by simpa using this)
    have h4 := hb.nc 47 h3
    revert h4; decide
theorem zzTaken_any (s : ByteArray) (w : World) (hb : Bare s) : Calls Tryz.prog 67 #[.string s] w (BoolPost true w) :=
  zzTaken_gen s ⟨#[]⟩ s w (fun x hx => Pl.nc_uri x (hb.nc x hx)) (by have := hb.size; omega) (by have := hb.size; omega) (fun w' => (zzScheme_any s w' hb).mono fun e w2 h => ⟨h.1, by rw [h.2]; exact Ext.refl _⟩) (by
    rcases bare_case hb with h | h
    · exact .inl h
    · exact .inr (.inl h))
theorem get_bl {s : ByteArray} {k : Nat} {c : UInt8} (h : (bl s)[k]? = some c) : ∃ hk : k < s.size, s[k] = c := by
  have hk : k < (bl s).length := by
    rcases Nat.lt_or_ge k (bl s).length with hk | hk
    · exact hk
    · rw [List.getElem?_eq_none hk] at h; cases h
  have hk2 : k < s.size := by rw [← bl_length]; exact hk
  refine ⟨hk2, ?_⟩
  rw [List.getElem?_eq_getElem hk, bl_get s k hk2] at h
  injection h
theorem scheme_host (s : ByteArray) (k : Nat) (h p : List UInt8) (w : World) (hp : Pl.HostP (bl s) k h p) :
    Calls Tryz.prog 116 #[.string s] w (fun e w' => e = .returned (.tuple #[.string (s.extract 0 k), .string (s.extract (k + 1) s.size), .nilIface]) ∧ Ext w w') := by
  obtain ⟨hk, hc⟩ := get_bl hp.col
  have hlen := hp.len
  rw [bl_length] at hlen
  have hsch := hp.sch
  have htk : ∀ j, j < k → (hj : j < s.size) → s[j] ∈ (bl s).take k := fun j hjk hj => by
    refine List.mem_iff_getElem.2 ⟨j, by rw [List.length_take, bl_length]; omega, ?_⟩
    rw [List.getElem_take]; exact bl_get s j hj
  refine zzScheme_uri s k w hp.k0 hk (by omega) (fun j hjk hj => Pl.ld_nc _ (Pl.okLab_all hsch _ (htk j hjk hj))) (fun hk0 h0 => ?_) hc
  have hz : (bl s).take k = s[0] :: ((bl s).take k).tail := by
    have h1 : 0 < ((bl s).take k).length := by rw [List.length_take, bl_length]; omega
    cases hq : (bl s).take k with
    | nil => rw [hq] at h1; simp at h1
    | cons a t =>
      have h2 : ((bl s).take k)[0]? = some a := by rw [hq]; rfl
      rw [List.getElem?_take, if_pos hk0, List.getElem?_eq_getElem (by rw [bl_length]; exact h0), bl_get s 0 h0] at h2
      injection h2 with h2
      rw [h2]; rfl
  rw [hz] at hsch
  unfold Pl.okLab at hsch
  simp only [Bool.and_eq_true] at hsch
  exact hsch.1.1
theorem rest_host {s : ByteArray} {k : Nat} {h p : List UInt8} (hp : Pl.HostP (bl s) k h p) :
    (s.extract (k + 1) s.size).size ≤ 120 ∧ ¬ ((s.extract (k + 1) s.size).size : Int) < 2 ∧ (((s.extract (k + 1) s.size).extract 0 2).toList == [47, 47]) = true ∧ (Pl.cutAt 47 (bl ((s.extract (k + 1) s.size).extract 2 (s.extract (k + 1) s.size).size))).1 = h := by
  have hlen := hp.len
  rw [bl_length] at hlen
  have e1 : bl (s.extract (k + 1) s.size) = (bl s).drop (k + 1) := by
    rw [bl_extract, List.take_of_length_le (by rw [List.length_drop, bl_length]; omega)]
  have hsl := hp.sl
  have h2 : 2 ≤ ((bl s).drop (k + 1)).length := by
    have := congrArg List.length hsl
    rw [List.length_take] at this
    have h3 : min 2 ((bl s).drop (k + 1)).length = 2 := this
    omega
  have e2 : (s.extract (k + 1) s.size).size = ((bl s).drop (k + 1)).length := by rw [← e1, bl_length]
  refine ⟨by rw [ByteArray.size_extract]; omega, by rw [e2]; omega, ?_, ?_⟩
  · rw [toList_bl, bl_extract, e1, List.drop_zero]
    simpa using hsl
  · rw [bl_extract, e1, List.take_of_length_le (by rw [e2, List.length_drop]; exact Nat.le_refl _), List.drop_drop]
    exact hp.host
theorem taken_host (s : ByteArray) (k : Nat) (h p : List UInt8) (w : World) (hp : Pl.HostP (bl s) k h p) : Calls Tryz.prog 67 #[.string s] w (BoolPost true w) := by
  obtain ⟨h1, h2, h3, h4⟩ := rest_host hp
  have hlen := hp.len
  rw [bl_length] at hlen
  exact zzTaken_gen s _ _ w hp.chars (by omega) (by omega) (fun w' => scheme_host s k h p w' hp) (.inr (.inr ⟨h2, h3, by rw [h4]; exact hp.one, by rw [h4]; exact hp.noat⟩))
end Go.Proofs.YtnefafkdfcmmfaaGreatDoor
end
section
namespace Go.Proofs.YtnefafkdfcmmfaaGreatDoor
open Go.RowKit

/-- A URI behind a new pointer; no error. -/
def UrlPost (sc : ByteArray) (w : World) (e : Ending) (w' : World) : Prop := ∃ b, e = .returned (.tuple #[.pointer (some ⟨b, 0, none⟩), .string sc, .nilIface]) ∧ Ext w w'
set_option maxHeartbeats 4000000 in
set_option maxRecDepth 100000 in
theorem zzURL_bare (s : ByteArray) (w : World) (hb : Bare s) (h0 : 0 < s.size) :
    Calls Tryz.prog 68 #[.string s] w (UrlPost ⟨#[]⟩ w) := by
  have HB := Lib.hid hb
  have hsz := hb.size
  have hne : ((s.size : Int) == 0) = false := by rw [beq_eq_false_iff_ne]; omega
  have hsl : (((s[0]).toNat : Int) != 47) = true := by
    rw [bne_iff_ne]
    intro h
    have h2 := hb.head h0
    have : s[0] = 47 := UInt8.toNat_inj.1 (show s[0].toNat = 47 by omega)
    rw [this] at h2
    revert h2; decide
  have hno : ∀ c : UInt8, Pl.isNC c = false → c ∉ bl s := fun c hc hm => by rw [hb.nc c hm] at hc; cases hc
  have HN := Lib.hid hno
  clear hb hno
  have HX0 : Hid (Ext w (w.alloc (.cells #[.string ⟨#[]⟩, .string s] 122))) := (Ext.refl w).alloc _
  go_enter Tryz.func68, Tryz.ntmps68
  go_wp2_with fail
  refine (zzScheme_any s _ HB.out).mono ?_
  rintro e _ ⟨rfl, rfl⟩
  go_wp2_with fail
  refine (zzCut_any s ⟨#[47]⟩ 47 _ (by omega) rfl rfl).mono ?_
  rintro e w1 ⟨a, b, rfl, hA, hB, hAs, hBs, hb1⟩
  have h47 := Pl.cutAt_none 47 (bl s) (fun x hx e => HN.out 47 (by decide) (e ▸ hx))
  rw [h47] at hA hB ⊢
  have hAe : a = s := eq_of_bl hA
  subst hAe
  have HX1 := Lib.hid (HX0.out.tr hb1)
  clear hA hB hAs hBs hb1 h47
  have h58 : Hid (Pl.has (bl a) (bl ⟨#[58]⟩) = false) := Pl.has_no 58 (by decide) (HN.out 58 (by decide))
  go_wp2_with fail
  refine (zzContains_any a ⟨#[58]⟩ _ (by omega) (by decide)).mono ?_
  rintro e w2 ⟨rfl, hb2⟩
  rw [h58.out]
  have HX2 := Lib.hid (HX1.out.tr hb2); clear hb2
  go_wp2
  go_ret3
  exact ⟨_, rfl, HX2.out⟩
theorem ZZURI_of (s sc : ByteArray) (w : World) (h : Calls Tryz.prog 68 #[.string s] w (UrlPost sc w)) :
    Calls Tryz.prog 34 #[.string s] w (fun e w' => ∃ b, e = .returned (.tuple #[.pointer (some ⟨b, 0, none⟩), .nilIface]) ∧ Ext w w') := by
  have H := Lib.hid h; clear h
  go_enter Tryz.func34, Tryz.ntmps34
  go_wp2_with fail
  refine H.out.mono ?_
  rintro e w1 ⟨b, rfl, hb⟩
  go_wp2
  go_ret2
  exact ⟨b, rfl, hb⟩
set_option maxHeartbeats 8000000 in
set_option maxRecDepth 100000 in
theorem zzURL_host (s : ByteArray) (k : Nat) (h p : List UInt8) (w : World) (hp : Pl.HostP (bl s) k h p) :
    Calls Tryz.prog 68 #[.string s] w (UrlPost (s.extract 0 k) w) := by
  obtain ⟨hr1, hr2, hr3, hr4⟩ := rest_host hp
  have hlen := hp.len
  rw [bl_length] at hlen
  have hk0 := hp.k0
  have hkl : k < s.size := (get_bl hp.col).1
  have HS : Hid (∀ w', Calls Tryz.prog 116 #[.string s] w' (fun e w2 => e = .returned (.tuple #[.string (s.extract 0 k), .string (s.extract (k + 1) s.size), .nilIface]) ∧ Ext w' w2)) := fun w' => scheme_host s k h p w' hp
  have HDG := Lib.hid hp.dig
  have HPT := Lib.hid hp.port
  clear hp
  obtain ⟨sc, hsc⟩ : ∃ y, y = s.extract 0 k := ⟨_, rfl⟩
  obtain ⟨re, hre⟩ : ∃ y, y = s.extract (k + 1) s.size := ⟨_, rfl⟩
  have hzsc : sc.size = k := by rw [hsc, ByteArray.size_extract]; omega
  rw [← hsc, ← hre] at HS
  rw [← hre] at hr1 hr2 hr3 hr4
  rw [← hsc]
  clear hsc hre
  have hsc1 : ¬ sc.toList = [] := by
    rw [toList_bl]
    intro e
    have := bl_length sc
    rw [e] at this
    simp at this; omega
  have hsc2 : sc.toList.isEmpty = false := by
    rw [List.isEmpty_eq_false_iff]; exact hsc1
  have hp0 : 0 < re.size := by omega
  have hne : ((re.size : Int) == 0) = false := by rw [beq_eq_false_iff_ne]; omega
  have hq0 : re[0] = 47 := by
    have h1 : (bl re)[0]? = some 47 := by
      rw [toList_bl, bl_extract, beq_iff_eq] at hr3
      have h2 := congrArg (fun l => l[0]?) hr3
      simpa using h2
    exact (get_bl h1).2
  have hsl : (((re[0]).toNat : Int) != 47) = false := by rw [hq0]; rfl
  clear hq0
  obtain ⟨r2, hr⟩ : ∃ y, y = re.extract 2 re.size := ⟨_, rfl⟩
  have hz2 : r2.size ≤ 1000 := by rw [hr, ByteArray.size_extract]; omega
  rw [← hr] at hr4
  have HR4 := Lib.hid hr4
  have HR := Lib.hid hr
  have hge : (2 : Int) ≤ (re.size : Int) := by omega
  clear hr4 hr hr2
  have HB0 : Hid (Blk (w.alloc (.cells #[.string ⟨#[]⟩, .string s] 122)) w.heap.size 122 #[.string ⟨#[]⟩, .string s]) := Blk.new _ _ _
  have HX0 : Hid (Ext w (w.alloc (.cells #[.string ⟨#[]⟩, .string s] 122))) := (Ext.refl w).alloc _
  go_enter Tryz.func68, Tryz.ntmps68
  go_wp2_with fail
  refine (HS.out _).mono ?_
  rintro e w0 ⟨rfl, hb0⟩
  have HX0 := Lib.hid (HX0.out.tr hb0)
  have HB0 := Lib.hid (HB0.out.ext hb0)
  clear hb0
  go_wp2_with fail
  rw [← HR.out]
  refine (zzCut_any r2 ⟨#[47]⟩ 47 _ (by omega) rfl rfl).mono ?_
  rintro e w1 ⟨ho, pa, rfl, hA, hB, hAs, hBs, hb1⟩
  have HHO : Hid (bl ho = h) := by unfold Hid; rw [hA]; exact HR4.out
  have hzh : ho.size ≤ 1000 := by omega
  have HX1 := Lib.hid (HX0.out.tr hb1)
  have HB1 := Lib.hid (HB0.out.ext hb1)
  clear hA hB hAs hBs hb1
  go_wp2_with fail
  refine (zzCut_any ho ⟨#[58]⟩ 58 _ (by omega) rfl rfl).mono ?_
  rintro e w2 ⟨na, po, rfl, hA, hB, hAs, hBs, hb2⟩
  have HPO : Hid (bl po = p) := by unfold Hid; rw [hB, HHO.out]; exact HPT.out
  have hzp : po.size ≤ 1000 := by omega
  have HX2 := Lib.hid (HX1.out.tr hb2)
  have HB2 := Lib.hid (HB1.out.ext hb2)
  clear hA hB hAs hBs hb2
  have hfr : w2.frozen? ⟨w.heap.size, 0, none⟩ = false := HB2.out.frozen 0
  have hce : w2.cell? ⟨w.heap.size, 0, none⟩ = some (.string ⟨#[]⟩) := HB2.out.cell 0
  have HEND : Hid (Ext w (w2.setCell ⟨w.heap.size, 0, none⟩ (.string ho))) := Below.setCell HX2.out (Nat.le_refl _) _
  go_wp2
  go_loopw [18] (fun i wr => ∃ j : Nat, i = .int .i64 j ∧ j ≤ po.size ∧ wr = w2) (fun i _ => po.size - (intOf i).toNat)
  case atStart => exact ⟨0, rfl, by omega, rfl⟩
  case round =>
    obtain ⟨j, rfl, hj, rfl⟩ := hrel
    by_cases hlt : j < po.size
    · have hd : Pl.isDig po[j] = true := by
        have := HDG.out (bl po)[j] (by rw [← HPO.out]; exact List.getElem_mem (by rw [bl_length]; exact hlt))
        rw [bl_get po j hlt] at this
        exact this
      unfold Pl.isDig at hd
      simp only [Bool.and_eq_true, decide_eq_true_eq] at hd
      have g48 : ¬ ((po[j]).toNat : Int) < 48 := by omega
      have l57 : ¬ (57 : Int) < ((po[j]).toNat : Int) := by omega
      clear hd
      go_wp2
      go_roundw
      case rel => first | exact ⟨j + 1, by go_num, by omega, rfl⟩ | exact ⟨j + 1, by go_num, by omega, trivial⟩
      case measure => simp [intOf]; omega
    · go_wp2
      go_ret3
      exact ⟨_, rfl, HEND.out⟩
end Go.Proofs.YtnefafkdfcmmfaaGreatDoor
end
