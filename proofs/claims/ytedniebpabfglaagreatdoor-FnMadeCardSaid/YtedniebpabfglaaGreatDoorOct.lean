/- Plain words: the dotted numbers of a range, read sign by sign. -/
import Derived.Test.YtedniebpabfglaaGreatDoorHost
namespace Go.Proofs.YtedniebpabfglaaGreatDoor.Pl

theorem cutAt_pre (c : UInt8) (d r : Str) (h : ∀ x ∈ d, x ≠ c) : cutAt c (d ++ r) = (d ++ (cutAt c r).1, (cutAt c r).2.1, (cutAt c r).2.2) := by
  induction d with
  | nil => rfl
  | cons x t ih => rw [List.cons_append, cutAt, if_neg (h x (by simp)), ih (fun y hy => h y (by simp [hy]))]; rfl
theorem dig_ne {c : UInt8} (h : isDig c = true) : c ≠ 46 := by rintro rfl; revert h; decide
theorem dig_num {c : UInt8} (h : isDig c = true) : 48 ≤ c.toNat ∧ c.toNat ≤ 57 := by
  unfold isDig at h
  simpa using h
structure NumOk (s : Str) (most : Nat) : Prop where
  ne : s ≠ []
  dig : ∀ x ∈ s, isDig x = true
  head : s.length ≤ 1 ∨ s.headD 0 ≠ 48
  le : numVal s ≤ most
theorem num_ok {s : Str} {most : Nat} (h : isNum s most = true) : NumOk s most := by
  unfold isNum at h
  simp only [Bool.and_eq_true, Bool.or_eq_true, Bool.not_eq_true', decide_eq_true_eq, List.all_eq_true, beq_eq_false_iff_ne] at h
  obtain ⟨⟨⟨h1, h2⟩, h3⟩, h4⟩ := h
  exact ⟨(by rintro rfl; cases h1), h2, h3, h4⟩
/-- A state of the reading: the part of the present number that is read. -/
structure OctSt (l : Str) (i pos : Nat) (d : Str) : Prop where
  pos3 : pos ≤ 3
  pre : ∃ p, l.take i = p ++ d
  dig : ∀ x ∈ d, isDig x = true
  ok : octsOk (4 - pos) (d ++ l.drop i) = true
theorem OctSt.parts {l : Str} {i pos : Nat} {d : Str} (h : OctSt l i pos d) :
    NumOk (d ++ (cutAt 46 (l.drop i)).1) 255 ∧ (cutAt 46 (l.drop i)).2.2 = decide (0 < 3 - pos) ∧ octsOk (3 - pos) (cutAt 46 (l.drop i)).2.1 = true := by
  have h1 := h.ok
  have := h.pos3
  rw [show 4 - pos = (3 - pos) + 1 by omega, octsOk, cutAt_pre 46 d _ (fun x hx => dig_ne (h.dig x hx))] at h1
  simp only [Bool.and_eq_true, beq_iff_eq] at h1
  exact ⟨num_ok h1.1.1, h1.1.2, h1.2⟩
theorem OctSt.start {l : Str} (h : octsOk 4 l = true) : OctSt l 0 0 [] := ⟨by omega, ⟨[], rfl⟩, by simp, by simpa using h⟩
theorem drop_hd {l : Str} {i : Nat} (h : i < l.length) : l.drop i = l[i] :: l.drop (i + 1) := List.drop_eq_getElem_cons h
theorem take_hd {l : Str} {i : Nat} (h : i < l.length) : l.take (i + 1) = l.take i ++ [l[i]] := List.take_succ_eq_append_getElem h
theorem oct_chr {l : Str} {i pos : Nat} {d : Str} (h : OctSt l i pos d) (hi : i < l.length) : isDig l[i] = true ∨ l[i] = 46 := by
  by_cases hc : l[i] = 46
  · exact .inr hc
  · have h1 := h.parts.1.dig l[i] (by rw [drop_hd hi, cutAt, if_neg hc]; simp)
    exact .inl h1
theorem oct_dig {l : Str} {i pos : Nat} {d : Str} (h : OctSt l i pos d) (hi : i < l.length) (hd : isDig l[i] = true) :
    OctSt l (i + 1) pos (d ++ [l[i]]) ∧ numVal (d ++ [l[i]]) ≤ 255 ∧ ¬ (d.length = 1 ∧ numVal d = 0) := by
  have hp := h.parts.1
  rw [drop_hd hi, cutAt, if_neg (dig_ne hd)] at hp
  refine ⟨⟨h.pos3, ?_, ?_, ?_⟩, ?_, ?_⟩
  · obtain ⟨p, e⟩ := h.pre
    exact ⟨p, by rw [take_hd hi, e, List.append_assoc]⟩
  · intro x hx
    rcases List.mem_append.1 hx with hx | hx
    · exact h.dig x hx
    · rw [List.mem_singleton.1 hx]; exact hd
  · have := h.ok
    rw [drop_hd hi] at this
    simpa using this
  · refine Nat.le_trans ?_ hp.le
    have := numVal_mono (d ++ [l[i]]) (cutAt 46 (l.drop (i + 1))).1
    simpa using this
  · rintro ⟨h1, h2⟩
    match d, h1, h2, h.dig, hp with
    | [x], _, h2, hx, hp =>
      have h3 := dig_num (hx x (by simp))
      have h4 : x.toNat = 48 := by
        have : numVal [x] = x.toNat - 48 := by simp [numVal]
        omega
      rcases hp.head with h5 | h5
      · simp at h5
      · exact h5 (UInt8.toNat_inj.1 h4)
theorem oct_le {l : Str} {i pos : Nat} {d : Str} (h : OctSt l i pos d) : numVal d ≤ 255 :=
  Nat.le_trans (numVal_mono d _) h.parts.1.le
theorem oct_dot {l : Str} {i pos : Nat} {d : Str} (h : OctSt l i pos d) (hi : i < l.length) (hd : l[i] = 46) :
    pos < 3 ∧ OctSt l (i + 1) (pos + 1) [] ∧ i + 1 < l.length ∧ 0 < i ∧ ∀ h2 : i - 1 < l.length, isDig l[i - 1] = true := by
  obtain ⟨h1, h2, h3⟩ := h.parts
  rw [drop_hd hi, cutAt, if_pos hd] at h1 h2 h3
  simp only [List.append_nil] at h1 h2 h3
  have hpos : pos < 3 := by
    have : 0 < 3 - pos := of_decide_eq_true h2.symm
    omega
  have hst : OctSt l (i + 1) (pos + 1) [] := ⟨by omega, ⟨l.take (i + 1), by simp⟩, by simp, by rw [show 4 - (pos + 1) = 3 - pos by omega]; simpa using h3⟩
  have hr := hst.parts.1.ne
  obtain ⟨p, e⟩ := h.pre
  have hlen : i = p.length + d.length := by
    have := congrArg List.length e
    rw [List.length_take, List.length_append] at this
    omega
  have hdn : 0 < d.length := List.length_pos_iff.2 h1.ne
  refine ⟨hpos, hst, ?_, by omega, fun hj => ?_⟩
  · rcases Nat.lt_or_ge (i + 1) l.length with h | h
    · exact h
    · rw [List.drop_of_length_le h] at hr
      exact absurd rfl hr
  · refine h.dig _ ?_
    have e2 : l[i - 1]? = d[d.length - 1]? := by
      have h4 : (l.take i)[i - 1]? = l[i - 1]? := by rw [List.getElem?_take, if_pos (by omega)]
      rw [← h4, e, List.getElem?_append_right (by omega)]
      congr 1
      omega
    rw [List.getElem?_eq_getElem hj] at e2
    exact List.mem_of_getElem? e2.symm
theorem oct_end {l : Str} {pos : Nat} {d : Str} (h : OctSt l l.length pos d) : pos = 3 := by
  have h1 := h.parts.2.1
  rw [List.drop_of_length_le (Nat.le_refl _)] at h1
  have h2 : (0 < 3 - pos) → False := fun hp => by
    rw [decide_eq_true hp] at h1
    cases h1
  have := h.pos3
  rcases Nat.lt_or_ge pos 3 with hp | hp
  · exact (h2 (by omega)).elim
  · omega
theorem octs_chr (n : Nat) (l : Str) (h0 : 0 < n) (h : octsOk n l = true) : ∀ x ∈ l, isDig x = true ∨ x = 46 := by
  induction n generalizing l with
  | zero => omega
  | succ n ih =>
    rw [octsOk] at h
    simp only [Bool.and_eq_true, beq_iff_eq] at h
    obtain ⟨⟨h1, h2⟩, h3⟩ := h
    have hn := (num_ok h1).dig
    intro x hx
    cases hc : (cutAt 46 l).2.2 with
    | false =>
      obtain ⟨he, _⟩ := cutAt_false 46 l hc
      rw [he] at hn
      exact .inl (hn x hx)
    | true =>
      rw [hc] at h2
      obtain ⟨he, _⟩ := cutAt_true 46 l hc
      rw [he] at hx
      rcases List.mem_append.1 hx with hx | hx
      · exact .inl (hn x hx)
      · rcases List.mem_cons.1 hx with hx | hx
        · exact .inr hx
        · exact ih _ (of_decide_eq_true h2.symm) h3 x hx
theorem octs_dot {l : Str} (h : octsOk 4 l = true) : 46 ∈ l := by
  rw [octsOk] at h
  simp only [Bool.and_eq_true, beq_iff_eq] at h
  have h2 : (cutAt 46 l).2.2 = true := h.1.2
  obtain ⟨he, _⟩ := cutAt_true 46 l h2
  rw [he]; simp
/-- The numbers between the dots. -/
def octsV : Nat → Str → List Nat
  | 0, _ => []
  | n + 1, s => numVal (cutAt 46 s).1 :: octsV n (cutAt 46 s).2.1
theorem octsV_len (n : Nat) (s : Str) : (octsV n s).length = n := by
  induction n generalizing s with
  | zero => rfl
  | succ n ih => rw [octsV, List.length_cons, ih]
structure OctV (l : Str) (i pos : Nat) (d : Str) (done : List Nat) : Prop where
  len : done.length = pos
  val : octsV 4 l = done ++ octsV (4 - pos) (d ++ l.drop i)
theorem OctV.start (l : Str) : OctV l 0 0 [] [] := ⟨rfl, by simp⟩
theorem octv_dig {l : Str} {i pos : Nat} {d : Str} {done : List Nat} (h : OctV l i pos d done) (hi : i < l.length) : OctV l (i + 1) pos (d ++ [l[i]]) done := by
  refine ⟨h.len, ?_⟩
  rw [h.val, drop_hd hi]
  simp
theorem octv_dot {l : Str} {i pos : Nat} {d : Str} {done : List Nat} (h : OctV l i pos d done) (hs : OctSt l i pos d) (hi : i < l.length) (hc : l[i] = 46) : OctV l (i + 1) (pos + 1) [] (done ++ [numVal d]) := by
  refine ⟨by rw [List.length_append, h.len]; rfl, ?_⟩
  have := hs.pos3
  rw [h.val, show 4 - pos = (3 - pos) + 1 by omega, octsV, drop_hd hi, cutAt_pre 46 d _ (fun x hx => dig_ne (hs.dig x hx)), cutAt, if_pos hc]
  simp [show 4 - (pos + 1) = 3 - pos by omega]
theorem octv_end {l : Str} {d : Str} {done : List Nat} (h : OctV l l.length 3 d done) (hs : OctSt l l.length 3 d) : octsV 4 l = done ++ [numVal d] := by
  rw [h.val, List.drop_of_length_le (Nat.le_refl _), List.append_nil]
  rw [show 4 - 3 = 0 + 1 by rfl, octsV, cutAt_none 46 d (fun x hx => dig_ne (hs.dig x hx))]
  rfl
end Go.Proofs.YtedniebpabfglaaGreatDoor.Pl
