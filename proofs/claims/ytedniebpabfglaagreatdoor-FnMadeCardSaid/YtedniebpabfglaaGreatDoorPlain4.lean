/- Plain laws: what matchDomainConstraint computes. -/
import Derived.Test.YtedniebpabfglaaGreatDoorPlain3
import Derived.Lib.Fold
namespace Go.Proofs.YtedniebpabfglaaGreatDoor.Pl

theorem foldEq_low : ∀ x y : UInt8, Go.Lib.foldEq x y = (low x == low y) := by
  intro x y
  have hx := UInt8.toNat_lt x
  have hy := UInt8.toNat_lt y
  have add32 : ∀ z : UInt8, z.toNat ≤ 90 → (z + 32).toNat = z.toNat + 32 := by
    intro z hz
    rw [UInt8.toNat_add]
    show (z.toNat + 32) % 256 = _
    omega
  have key : (low x = low y) ↔ (low x).toNat = (low y).toNat := UInt8.toNat_inj.symm
  rw [Bool.eq_iff_iff, beq_iff_eq, key]
  unfold Go.Lib.foldEq low
  simp only [decide_eq_true_eq]
  by_cases h1 : 65 ≤ x.toNat ∧ x.toNat ≤ 90 <;> by_cases h2 : 65 ≤ y.toNat ∧ y.toNat ≤ 90
  · rw [if_pos h1, if_pos h2, add32 x h1.2, add32 y h2.2]; omega
  · rw [if_pos h1, if_neg h2, add32 x h1.2]; omega
  · rw [if_neg h1, if_pos h2, add32 y h2.2]; omega
  · rw [if_neg h1, if_neg h2]; omega
theorem fold_small : ∀ a b : Str, Go.Lib.equalFold a b = (small a == small b) := by
  intro a
  induction a with
  | nil => intro b; cases b <;> simp [Go.Lib.equalFold, small]
  | cons x s ih =>
    intro b
    cases b with
    | nil => simp [Go.Lib.equalFold, small]
    | cons y t =>
      have : (small (x :: s) == small (y :: t)) = ((low x == low y) && (small s == small t)) := by simp [small]
      rw [this, ← ih t, ← foldEq_low]
      rfl
/-- A name, or a wildcard and a name. -/
def DomN (d : Str) : Prop := isName d = true ∨ ∃ r, d = 42 :: 46 :: r ∧ isName r = true
/-- A name, or one behind a dot. -/
def ConN (c : Str) : Prop := isName c = true ∨ ∃ r, c = 46 :: r ∧ isName r = true
def wildD (d : Str) : Bool := d.head? == some 42
def dotC (c : Str) : Bool := c.head? == some 46
/-- What matchDomainConstraint says. -/
def matchD (lit : Bool) (d c : Str) : Bool := (!wildD d || lit) && (((splitDot d).drop (if dotC c then 1 else 0)).map small == (labs c).map small)
theorem split_star (r : Str) : splitDot (42 :: 46 :: r) = [42] :: splitDot r := splitDot_dot [42] r (by simp)
theorem head_name {d : Str} (h : isName d = true) : ∃ c r, d = c :: r ∧ isLet c = true := name_head h
theorem let_ne (c : UInt8) (h : isLet c = true) : c ≠ 46 ∧ c ≠ 42 := by constructor <;> (rintro rfl; revert h; decide)
theorem wildD_name {d : Str} (h : isName d = true) : wildD d = false := by
  obtain ⟨c, r, rfl, hc⟩ := name_head h
  have := (let_ne c hc).2
  simp [wildD, this]
theorem dotC_name {c : Str} (h : isName c = true) : dotC c = false := by
  obtain ⟨x, r, rfl, hc⟩ := name_head h
  have := (let_ne x hc).1
  simp [dotC, this]
theorem labs_star (r : Str) : labs (42 :: 46 :: r) = [42] :: splitDot r := by unfold labs; rw [split_star]
theorem dom_labs {d : Str} (h : DomN d) : labs d = splitDot d ∧ labs d ≠ [] ∧ (∀ l ∈ labs d, l ≠ []) := by
  rcases h with h | ⟨r, rfl, h⟩
  · rw [name_labs h]
    exact ⟨rfl, splitDot_ne _, fun l hl => okLab_nil (name_all h l hl)⟩
  · rw [labs_star, split_star]
    refine ⟨rfl, by simp, fun l hl => ?_⟩
    rcases List.mem_cons.1 hl with rfl | hl
    · simp
    · exact okLab_nil (name_all h l hl)
theorem dom_vis {d : Str} (h : DomN d) : ∀ x ∈ d, 33 ≤ x.toNat ∧ x.toNat ≤ 126 := by
  rcases h with h | ⟨r, rfl, h⟩
  · exact fun x hx => by have := nc_range x (isName_mem h x hx); exact ⟨this.1, this.2.1⟩
  · intro x hx
    rcases List.mem_cons.1 hx with rfl | hx
    · decide
    · rcases List.mem_cons.1 hx with rfl | hx
      · decide
      · have := nc_range x (isName_mem h x hx); exact ⟨this.1, this.2.1⟩
theorem nodd_dot {r : Str} (h : isName r = true) : has (46 :: r) [46, 46] = false := by
  have h2 := name_nodd h
  obtain ⟨c, t, rfl, hc⟩ := name_head h
  refine has_false fun i hi => ?_
  cases i with
  | zero =>
    have := (let_ne c hc).1
    simp [at_, this]
  | succ i =>
    cases hx : at_ (46 :: c :: t) [46, 46] (i + 1) with
    | false => rfl
    | true =>
      exfalso
      have := has_true (s := c :: t) (p := [46, 46]) i (by simp at hi ⊢; omega) (by simpa [at_] using hx)
      rw [h2] at this; cases this
theorem con_nodd {c : Str} (h : ConN c) : has c [46, 46] = false := by
  rcases h with h | ⟨r, rfl, h⟩
  · exact name_nodd h
  · exact nodd_dot h
/-- No star but one ahead. -/
theorem dom_star {d : Str} (h : DomN d) : ∀ i, 0 < i → at_ d [42] i = false := by
  intro i hi
  rw [at_one]
  have hno : ∀ r : Str, isName r = true → ∀ k : Nat, ¬ r[k]? = some 42 := by
    intro r hr k hk
    have hm := List.mem_of_getElem? hk
    exact (nc_range 42 (isName_mem hr 42 hm)).2.2.1 rfl
  rcases h with h | ⟨r, rfl, h⟩
  · simpa using hno d h i
  · match i, hi with
    | 1, _ => simp
    | k + 2, _ => simpa using hno r h k
/-- Place for place, from the last one on. -/
theorem rev_match (a b : List Str) (k : Nat) (hlen : a.length = b.length + k) : ((a.drop k).map small == b.map small) = true ↔ ∀ j, (hj : j < b.length) → small (a.reverse[j]'(by rw [List.length_reverse]; omega)) = small (b.reverse[j]'(by rw [List.length_reverse]; exact hj)) := by
  rw [beq_iff_eq]
  have hl : ((a.drop k).map small).length = (b.map small).length := by simp; omega
  constructor
  · intro h j hj
    rw [List.getElem_reverse, List.getElem_reverse]
    have h1 : ((a.drop k).map small)[b.length - 1 - j]'(by rw [hl]; simp; omega) = (b.map small)[b.length - 1 - j]'(by simp; omega) := by simp only [h]
    rw [List.getElem_map, List.getElem_map, List.getElem_drop] at h1
    rw [← h1]
    congr 2
    omega
  · intro h
    refine List.ext_getElem hl fun i h1 h2 => ?_
    rw [List.getElem_map, List.getElem_map, List.getElem_drop]
    have hi : i < b.length := by simpa using h2
    have := h (b.length - 1 - i) (by omega)
    rw [List.getElem_reverse, List.getElem_reverse] at this
    have e1 : a.length - 1 - (b.length - 1 - i) = k + i := by omega
    have e2 : b.length - 1 - (b.length - 1 - i) = i := by omega
    simp only [e1, e2] at this
    exact this
end Go.Proofs.YtedniebpabfglaaGreatDoor.Pl
