/- Plain words: what texts of ranges, of constraints of mails and of principals are made of. -/
import Derived.Test.YtedniebpabfglaaGreatDoorOct
import Derived.Test.YtedniebpabfglaaGreatDoorNormE
import Derived.Test.YtedniebpabfglaaGreatDoorRight
namespace Go.Proofs.YtedniebpabfglaaGreatDoor.Pl

theorem isNum_mono {s : Str} {m n : Nat} (h : isNum s m = true) (hm : m ≤ n) : isNum s n = true := by
  obtain ⟨h1, h2, h3, h4⟩ := isNum_get h
  exact isNum_ok h1 (fun k hk => h2 _ (List.getElem_mem hk)) h3 (Nat.le_trans h4 hm)
theorem octs_len (n : Nat) (l : Str) (h0 : 0 < n) (h : octsOk n l = true) : l.length ≤ 6 * n := by
  induction n generalizing l with
  | zero => omega
  | succ n ih =>
    rw [octsOk] at h
    simp only [Bool.and_eq_true, beq_iff_eq] at h
    obtain ⟨⟨h1, h2⟩, h3⟩ := h
    have hn := isNum_len (isNum_mono h1 (by omega : 255 ≤ 65535))
    cases hc : (cutAt 46 l).2.2 with
    | false =>
      obtain ⟨he, _⟩ := cutAt_false 46 l hc
      rw [he] at hn
      have hn2 : l.length ≤ 5 := hn
      omega
    | true =>
      rw [hc] at h2
      obtain ⟨he, _⟩ := cutAt_true 46 l hc
      have := ih _ (of_decide_eq_true h2.symm) h3
      rw [he, List.length_append, List.length_cons]
      omega
theorem dig_fine {c : UInt8} (h : isDig c = true) : c.toNat < 128 ∧ c.toNat ≠ 45 := by
  have := dig_num h
  omega
theorem octs_fine {l : Str} (h : octsOk 4 l = true) : l.length ≤ 24 ∧ ∀ x ∈ l, x.toNat < 128 ∧ x.toNat ≠ 45 :=
  ⟨octs_len 4 l (by omega) h, fun x hx => by
    rcases octs_chr 4 l (by omega) h x hx with hd | rfl
    · exact dig_fine hd
    · decide⟩
theorem range_fine {s : Str} (h : isRange s = true) : s.length ≤ 120 ∧ ∀ x ∈ s, x.toNat < 128 ∧ x.toNat ≠ 45 := by
  unfold isRange at h
  simp only [Bool.and_eq_true, Bool.or_eq_true, Bool.not_eq_true'] at h
  obtain ⟨h1, h2⟩ := h
  have ho := octs_fine h2
  cases hc : (cutAt 47 s).2.2 with
  | false =>
    obtain ⟨he, _⟩ := cutAt_false 47 s hc
    rw [he] at ho
    have ho2 : s.length ≤ 24 ∧ ∀ x ∈ s, x.toNat < 128 ∧ x.toNat ≠ 45 := ho
    exact ⟨by omega, ho2.2⟩
  | true =>
    rw [hc] at h1
    obtain ⟨he, _⟩ := cutAt_true 47 s hc
    have hn : isNum (cutAt 47 s).2.1 32 = true := by simpa using h1
    have hl := isNum_len (isNum_mono hn (by omega : 32 ≤ 65535))
    refine ⟨by rw [he, List.length_append, List.length_cons]; omega, fun x hx => ?_⟩
    rw [he, List.mem_append, List.mem_cons] at hx
    rcases hx with hx | rfl | hx
    · exact ho.2 x hx
    · decide
    · exact dig_fine ((isNum_get hn).2.1 x hx)
theorem box_fine {s : Str} (h : isMailbox s = true) : s.length ≤ 120 ∧ ∀ x ∈ s, x.toNat < 128 ∧ x.toNat ≠ 45 := by
  obtain ⟨_, ⟨hn, _⟩ | ⟨r, hb, hn, _⟩ | ⟨b, r, hb, hx, hn, _⟩⟩ := mailbox_cases h
  · have := name_len hn
    exact ⟨by omega, fun x hx => nc_minus x (isName_mem hn x hx)⟩
  · have := name_len hn
    refine ⟨by rw [hb, List.length_cons]; omega, fun x hx => ?_⟩
    rw [hb, List.mem_cons] at hx
    rcases hx with rfl | hx
    · decide
    · exact nc_minus x (isName_mem hn x hx)
  · have l1 := okLab_len hx
    have l2 := name_len hn
    refine ⟨by rw [hb, List.length_append, List.length_cons]; omega, fun x hx2 => ?_⟩
    rw [hb, List.mem_append, List.mem_cons] at hx2
    rcases hx2 with hx2 | rfl | hx2
    · exact nc_minus x (ld_nc x (okLab_all hx x hx2))
    · decide
    · exact nc_minus x (isName_mem hn x hx2)
theorem lab_fine {s : Str} (h : okLab s = true) : s.length ≤ 120 ∧ ∀ x ∈ s, x.toNat < 128 ∧ x.toNat ≠ 45 := by
  have := okLab_len h
  exact ⟨by omega, fun x hx => nc_minus x (ld_nc x (okLab_all h x hx))⟩
theorem normE_len (c : Str) : (normE c).length ≤ c.length := by
  unfold normE
  split
  · simp
  · exact Nat.le_refl _
end Go.Proofs.YtedniebpabfglaaGreatDoor.Pl
