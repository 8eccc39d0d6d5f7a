/- Plain facts on names: what a constraint of names becomes, and what holds of it. -/
import Derived.Test.YtedniebpabfglaaGreatDoorPlain2
namespace Go.Proofs.YtedniebpabfglaaGreatDoor.Pl

theorem splitDot_app (a c : Str) : splitDot (a ++ 46 :: c) = splitDot a ++ splitDot c := by
  induction a with
  | nil => simp [splitDot]
  | cons x r ih =>
    rw [List.cons_append, splitDot, ih, splitDot]
    by_cases hx : x = 46
    · rw [if_pos hx, if_pos hx]; rfl
    · rw [if_neg hx, if_neg hx]
      cases hs : splitDot r with
      | nil => exact absurd hs (splitDot_ne r)
      | cons h t => rfl
theorem low_dot (c : UInt8) : low c = 46 ↔ c = 46 := by
  unfold low
  constructor
  · intro h
    split at h
    · rename_i hc
      have h2 := congrArg UInt8.toNat h
      rw [UInt8.toNat_add] at h2
      have : (32 : UInt8).toNat = 32 := rfl
      have : (46 : UInt8).toNat = 46 := rfl
      omega
    · exact h
  · rintro rfl; rfl
theorem low_let (c : UInt8) : isLet (low c) = isLet c := by
  unfold low
  split
  · rename_i h
    have e : (c + 32).toNat = c.toNat + 32 := by rw [UInt8.toNat_add]; have : (32 : UInt8).toNat = 32 := rfl; omega
    unfold isLet
    rw [e]
    have h1 : decide (65 ≤ c.toNat) = true := by simp; omega
    have h2 : decide (c.toNat ≤ 90) = true := by simp; omega
    have h3 : decide (97 ≤ c.toNat + 32) = true := by simp; omega
    have h4 : decide (c.toNat + 32 ≤ 122) = true := by simp; omega
    rw [h1, h2, h3, h4]; simp
  · rfl
theorem low_dig (c : UInt8) : isDig (low c) = isDig c := by
  unfold low
  split
  · rename_i h
    have e : (c + 32).toNat = c.toNat + 32 := by rw [UInt8.toNat_add]; have : (32 : UInt8).toNat = 32 := rfl; omega
    unfold isDig
    rw [e]
    have h1 : decide (c.toNat ≤ 57) = false := by simp; omega
    have h2 : decide (c.toNat + 32 ≤ 57) = false := by simp; omega
    rw [h1, h2]; simp
  · rfl
theorem low_ld (c : UInt8) : isLD (low c) = isLD c := by unfold isLD; rw [low_let, low_dig]
theorem small_okLab (l : Str) : okLab (small l) = okLab l := by
  cases l with
  | nil => rfl
  | cons c r =>
    unfold small okLab
    simp only [List.map_cons, low_let, List.length_map, List.all_map]
    congr 3
    funext x
    exact low_ld x
theorem small_split (l : Str) : splitDot (small l) = (splitDot l).map small := by
  induction l with
  | nil => rfl
  | cons c r ih =>
    show splitDot (low c :: small r) = _
    rw [splitDot, splitDot, ih]
    by_cases hc : c = 46
    · rw [if_pos hc, if_pos ((low_dot c).2 hc)]; rfl
    · rw [if_neg hc, if_neg (fun h => hc ((low_dot c).1 h))]
      cases hs : splitDot r with
      | nil => exact absurd hs (splitDot_ne r)
      | cons h t => rfl
theorem small_name (l : Str) : isName (small l) = isName l := by
  rw [isName_iff, isName_iff, small_split, List.length_map, List.all_map]
  congr 2
  funext x
  exact small_okLab x
theorem small_small (l : Str) : small (small l) = small l := by
  unfold small
  rw [List.map_map]
  congr 1
  funext c
  show low (low c) = low c
  unfold low
  split
  · rename_i h
    have e : (c + 32).toNat = c.toNat + 32 := by rw [UInt8.toNat_add]; have : (32 : UInt8).toNat = 32 := rfl; omega
    rw [if_neg (by rw [e]; omega)]
  · rfl
theorem name_all {l : Str} (h : isName l = true) : ∀ x ∈ splitDot l, okLab x = true := by
  rw [isName_iff, Bool.and_eq_true, List.all_eq_true] at h
  exact h.1
theorem okLab_nil {x : Str} (h : okLab x = true) : x ≠ [] := by rintro rfl; cases h
theorem name_nodd {l : Str} (h : isName l = true) : has l [46, 46] = false := by
  refine has_false fun i hi => ?_
  cases ha : at_ l [46, 46] i with
  | false => rfl
  | true =>
    exfalso
    unfold at_ at ha
    rw [beq_iff_eq] at ha
    have e : l = l.take i ++ 46 :: 46 :: l.drop (i + 2) := by
      conv => lhs; rw [← List.take_append_drop i l, ← List.take_append_drop 2 (l.drop i), List.drop_drop]
      rw [show ([46, 46] : Str).length = 2 from rfl] at ha
      rw [ha]; rfl
    have h2 := name_all h [] (by rw [e, splitDot_app, splitDot, if_pos rfl]; simp)
    cases h2
theorem name_head {l : Str} (h : isName l = true) : ∃ c r, l = c :: r ∧ isLet c = true := by
  cases l with
  | nil => cases h
  | cons c r =>
    refine ⟨c, r, rfl, ?_⟩
    obtain ⟨t, u, e⟩ := splitDot_head [] (c :: r) (by simp)
    rw [List.nil_append, List.nil_append] at e
    have h1 := name_all h t (by rw [e]; simp)
    rw [splitDot] at e
    by_cases hc : c = 46
    · rw [if_pos hc] at e
      injection e with e1 e2
      rw [← e1] at h1; cases h1
    · rw [if_neg hc] at e
      cases hs : splitDot r with
      | nil => exact absurd hs (splitDot_ne r)
      | cons a b =>
        rw [hs] at e
        injection e with e1 e2
        rw [← e1] at h1
        unfold okLab at h1
        simp only [Bool.and_eq_true] at h1
        exact h1.1.1
theorem name_labs {l : Str} (h : isName l = true) : labs l = splitDot l := by
  unfold labs
  split
  · rename_i t e
    have := name_all h [] (by rw [e]; simp)
    cases this
  · rfl
theorem name_ne {l : Str} (h : isName l = true) : l ≠ [] := by rintro rfl; cases h
theorem nc_range (c : UInt8) (h : isNC c = true) : 33 ≤ c.toNat ∧ c.toNat ≤ 126 ∧ c ≠ 42 ∧ c ≠ 64 := by
  unfold isNC isLD isLet isDig at h
  simp only [Bool.or_eq_true, Bool.and_eq_true, decide_eq_true_eq, beq_iff_eq] at h
  have e42 : (42 : UInt8).toNat = 42 := rfl
  have e64 : (64 : UInt8).toNat = 64 := rfl
  have e46 : (46 : UInt8).toNat = 46 := rfl
  rcases h with ((⟨h1, h2⟩ | ⟨h1, h2⟩) | ⟨h1, h2⟩) | rfl
  · refine ⟨by omega, by omega, ?_, ?_⟩ <;> (rintro rfl; omega)
  · refine ⟨by omega, by omega, ?_, ?_⟩ <;> (rintro rfl; omega)
  · refine ⟨by omega, by omega, ?_, ?_⟩ <;> (rintro rfl; omega)
  · exact ⟨by omega, by omega, by decide, by decide⟩
/-- What a constraint of names becomes. -/
def normD (c : Str) : Str := match star c with
  | some r => 46 :: small r
  | none => small c
theorem star_eq {c r : Str} (h : star c = some r) : c = 42 :: 46 :: r ∧ r ≠ [] := by
  unfold star at h
  split at h
  · injection h with h; subst h; exact ⟨rfl, by simp⟩
  · cases h
/-- The signs of a constraint of names. -/
theorem domain_mem {c : Str} (h : isDomain c = true) : ∀ x ∈ c, 33 ≤ x.toNat ∧ x.toNat ≤ 126 := by
  unfold isDomain at h
  cases hs : star c with
  | none =>
    rw [hs] at h
    intro x hx
    have := nc_range x (isName_mem h x hx)
    exact ⟨this.1, this.2.1⟩
  | some r =>
    rw [hs] at h
    obtain ⟨rfl, _⟩ := star_eq hs
    intro x hx
    rcases List.mem_cons.1 hx with rfl | hx
    · exact ⟨by decide, by decide⟩
    · rcases List.mem_cons.1 hx with rfl | hx
      · exact ⟨by decide, by decide⟩
      · have := nc_range x (isName_mem h x hx)
        exact ⟨this.1, this.2.1⟩
theorem small_vis {c : Str} (h : ∀ x ∈ c, 33 ≤ x.toNat ∧ x.toNat ≤ 126) : ∀ x ∈ small c, 33 ≤ x.toNat ∧ x.toNat ≤ 126 := by
  intro x hx
  unfold small at hx
  obtain ⟨y, hy, rfl⟩ := List.mem_map.1 hx
  have := h y hy
  unfold low
  split
  · rename_i h2
    have e : (y + 32).toNat = y.toNat + 32 := by rw [UInt8.toNat_add]; have : (32 : UInt8).toNat = 32 := rfl; omega
    rw [e]; omega
  · exact this
end Go.Proofs.YtedniebpabfglaaGreatDoor.Pl
