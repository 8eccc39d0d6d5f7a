/- More plain words: the labels of a domain, from the last one on. -/
import Derived.Test.YtedniebpabfglaaGreatDoorPlain
namespace Go.Proofs.YtedniebpabfglaaGreatDoor.Pl

/-- The labels, without an empty one at the beginning. -/
def labs (d : Str) : List Str := match splitDot d with
  | [] :: t => t
  | l => l
theorem splitDot_snoc (a b : Str) (h : ∀ x ∈ b, x ≠ 46) : splitDot (a ++ 46 :: b) = splitDot a ++ [b] := by
  induction a with
  | nil => simp [splitDot, splitDot_plain b h]
  | cons c r ih =>
    rw [List.cons_append, splitDot, ih]
    by_cases hc : c = 46
    · rw [if_pos hc, splitDot, if_pos hc]; rfl
    · rw [if_neg hc, splitDot, if_neg hc]
      cases hs : splitDot r with
      | nil => exact absurd hs (splitDot_ne r)
      | cons x t => rfl
theorem labs_nil : labs [] = [] := rfl
theorem labs_plain (d : Str) (h : ∀ x ∈ d, x ≠ 46) (h0 : d ≠ []) : labs d = [d] := by
  unfold labs
  rw [splitDot_plain d h]
  cases d with
  | nil => exact absurd rfl h0
  | cons a b => rfl
theorem labs_snoc (a b : Str) (h : ∀ x ∈ b, x ≠ 46) : labs (a ++ 46 :: b) = labs a ++ [b] := by
  unfold labs
  rw [splitDot_snoc a b h]
  cases hs : splitDot a with
  | nil => exact absurd hs (splitDot_ne a)
  | cons x t => cases x <;> rfl
theorem labs_dot (d : Str) : labs (46 :: d) = splitDot d := by unfold labs; rw [splitDot, if_pos rfl]
theorem splitDot_mem_of {d : Str} : ∀ l ∈ splitDot d, ∀ x ∈ l, x ∈ d := by
  induction d with
  | nil => intro l hl x hx; simp [splitDot] at hl; subst hl; simp at hx
  | cons c r ih =>
    intro l hl x hx
    rw [splitDot] at hl
    by_cases hc : c = 46
    · rw [if_pos hc] at hl
      rcases List.mem_cons.1 hl with rfl | hl
      · simp at hx
      · exact List.mem_cons_of_mem _ (ih l hl x hx)
    · rw [if_neg hc] at hl
      cases hs : splitDot r with
      | nil => exact absurd hs (splitDot_ne r)
      | cons a t =>
        rw [hs] at hl ih
        rcases List.mem_cons.1 hl with rfl | hl
        · rcases List.mem_cons.1 hx with rfl | hx
          · simp
          · exact List.mem_cons_of_mem _ (ih a (by simp) x hx)
        · exact List.mem_cons_of_mem _ (ih l (by simp [hl]) x hx)
theorem labs_mem {d : Str} : ∀ l ∈ labs d, ∀ x ∈ l, x ∈ d := by
  intro l hl x hx
  unfold labs at hl
  cases hs : splitDot d with
  | nil => exact absurd hs (splitDot_ne d)
  | cons a t =>
    rw [hs] at hl
    refine splitDot_mem_of (d := d) l ?_ x hx
    rw [hs]
    cases a with
    | nil => exact List.mem_cons_of_mem _ hl
    | cons b c => exact hl
/-- The last dot cuts a text. -/
theorem cut_last {d : Str} {i : Nat} (hi : i + 1 ≤ d.length) (ha : at_ d [46] i = true) (hn : ∀ j, i < j → j + 1 ≤ d.length → at_ d [46] j = false) :
    d = d.take i ++ 46 :: d.drop (i + 1) ∧ ∀ x ∈ d.drop (i + 1), x ≠ 46 := by
  rw [at_one] at ha
  have hg : d[i] = 46 := by rw [List.getElem?_eq_getElem (by omega)] at ha; simpa using ha
  refine ⟨?_, ?_⟩
  · conv => lhs; rw [← List.take_append_drop i d, List.drop_eq_getElem_cons (by omega), hg]
  · intro x hx e
    obtain ⟨j, hj, rfl⟩ := List.mem_iff_getElem.1 hx
    have h2 := hn (i + 1 + j) (by omega) (by rw [List.length_drop] at hj; omega)
    rw [at_one, List.getElem?_eq_getElem (by rw [List.length_drop] at hj; omega)] at h2
    rw [List.getElem_drop] at e
    rw [e] at h2
    simp at h2
theorem no_dot {d : Str} (h : has d [46] = false) : ∀ x ∈ d, x ≠ 46 := by
  intro x hx e
  subst e
  rw [has_one hx] at h
  cases h
end Go.Proofs.YtedniebpabfglaaGreatDoor.Pl
