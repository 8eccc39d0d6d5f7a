/- Plain laws: how long names are. -/
import Derived.Test.YtedniebpabfglaaGreatDoorPlain4
namespace Go.Proofs.YtedniebpabfglaaGreatDoor.Pl
theorem len_split (l : Str) : l.length + 1 = ((splitDot l).map fun x => x.length + 1).sum := by
  induction l with
  | nil => rfl
  | cons c r ih =>
    rw [splitDot]
    split
    · simp only [List.map_cons, List.sum_cons, List.length_cons, List.length_nil]; omega
    · split
      · rename_i h; exact absurd h (splitDot_ne r)
      · rename_i h t e
        rw [e] at ih
        simp only [List.map_cons, List.sum_cons, List.length_cons] at ih ⊢; omega
theorem sum_le (L : List Str) (h : ∀ x ∈ L, x.length ≤ 10) : (L.map fun x => x.length + 1).sum ≤ 11 * L.length := by
  induction L with
  | nil => simp
  | cons a t ih =>
    have h1 := h a (by simp)
    have h2 := ih fun x hx => h x (by simp [hx])
    simp only [List.map_cons, List.sum_cons, List.length_cons]; omega
theorem okLab_len {x : Str} (h : okLab x = true) : x.length ≤ 10 := by
  cases x with
  | nil => simp
  | cons c r => simp only [okLab, Bool.and_eq_true, decide_eq_true_eq] at h; simp only [List.length_cons]; omega
theorem name_len {l : Str} (h : isName l = true) : l.length ≤ 43 := by
  have h1 := len_split l
  have h2 := sum_le (splitDot l) fun x hx => okLab_len (name_all h x hx)
  have h3 : (splitDot l).length ≤ 4 := by rw [isName_iff] at h; simp at h; exact h.2
  omega
theorem nc_minus (c : UInt8) (h : isNC c = true) : c.toNat < 128 ∧ c.toNat ≠ 45 := by
  unfold isNC isLD isLet isDig at h
  simp only [Bool.or_eq_true, Bool.and_eq_true, decide_eq_true_eq, beq_iff_eq] at h
  rcases h with ((⟨h1, h2⟩ | ⟨h1, h2⟩) | ⟨h1, h2⟩) | rfl
  · omega
  · omega
  · omega
  · decide
theorem domN_fine {d : Str} (h : DomN d) : d.length ≤ 45 ∧ ∀ x ∈ d, x.toNat < 128 ∧ x.toNat ≠ 45 := by
  rcases h with h | ⟨r, rfl, h⟩
  · exact ⟨by have := name_len h; omega, fun x hx => nc_minus x (isName_mem h x hx)⟩
  · refine ⟨by have := name_len h; simp; omega, fun x hx => ?_⟩
    rcases List.mem_cons.1 hx with rfl | hx
    · decide
    rcases List.mem_cons.1 hx with rfl | hx
    · decide
    exact nc_minus x (isName_mem h x hx)
theorem isDomain_DomN {c : Str} (h : isDomain c = true) : DomN c := by
  unfold isDomain at h
  cases hs : star c with
  | none => rw [hs] at h; exact .inl h
  | some r => rw [hs] at h; exact .inr ⟨r, (star_eq hs).1, h⟩
theorem normD_con {c : Str} (h : isDomain c = true) : ConN (normD c) ∧ (normD c).length ≤ 45 := by
  unfold isDomain at h
  unfold normD
  cases hs : star c with
  | none =>
    rw [hs] at h
    exact ⟨.inl (by show isName (small c) = true; rw [small_name]; exact h), by show (small c).length ≤ 45; have := name_len h; rw [small, List.length_map]; omega⟩
  | some r =>
    rw [hs] at h
    exact ⟨.inr ⟨small r, rfl, by rw [small_name]; exact h⟩, by show (46 :: small r).length ≤ 45; have := name_len h; rw [List.length_cons, small, List.length_map]; omega⟩
end Go.Proofs.YtedniebpabfglaaGreatDoor.Pl
