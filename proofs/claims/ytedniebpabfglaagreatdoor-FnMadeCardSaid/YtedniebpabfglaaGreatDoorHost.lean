/- Plain words: URIs and mails as the reference reads them; a name is made of its parts. The walks of spec.Host, spec.IsMail and the closures of spec.AreNames. -/
import Derived.Test.YtedniebpabfglaaGreatDoorPlain5
import Derived.Test.YtedniebpabfglaaGreatDoorIsPolicy
section
namespace Go.Proofs.YtedniebpabfglaaGreatDoor.Pl

def joinDot : List Str → Str
  | [] => []
  | [a] => a
  | a :: b :: t => a ++ 46 :: joinDot (b :: t)
theorem joinDot_split (l : Str) : joinDot (splitDot l) = l := by
  induction l with
  | nil => rfl
  | cons c r ih =>
    rw [splitDot]
    cases hs : splitDot r with
    | nil => exact absurd hs (splitDot_ne r)
    | cons a t =>
      rw [hs] at ih
      by_cases hc : c = 46
      · rw [if_pos hc, joinDot, ih, hc]; rfl
      · rw [if_neg hc]
        cases t with
        | nil => rw [joinDot] at ih ⊢; rw [ih]
        | cons b t => rw [joinDot] at ih ⊢; rw [List.cons_append, ih]
theorem splitDot_inj {a b : Str} (h : splitDot a = splitDot b) : a = b := by rw [← joinDot_split a, h, joinDot_split]
theorem split_small_eq (c n : Str) : ((splitDot n).map small == (splitDot c).map small) = (small n == small c) := by
  rw [← small_split, ← small_split, Bool.eq_iff_iff, beq_iff_eq, beq_iff_eq]
  exact ⟨splitDot_inj, fun h => by rw [h]⟩
theorem cutAt_true (c : UInt8) : ∀ s : Str, (cutAt c s).2.2 = true → s = (cutAt c s).1 ++ c :: (cutAt c s).2.1 ∧ ∀ x ∈ (cutAt c s).1, x ≠ c := by
  intro s
  induction s with
  | nil => intro h; cases h
  | cons x r ih =>
    intro h
    by_cases hx : x = c
    · rw [cutAt, if_pos hx] at h ⊢
      exact ⟨by rw [hx]; rfl, by simp⟩
    · rw [cutAt, if_neg hx] at h ⊢
      obtain ⟨h1, h2⟩ := ih h
      refine ⟨by show x :: r = x :: (_ ++ _); rw [← h1], fun y hy => ?_⟩
      rcases List.mem_cons.1 hy with rfl | hy
      · exact hx
      · exact h2 y hy
theorem cutAt_false (c : UInt8) : ∀ s : Str, (cutAt c s).2.2 = false → cutAt c s = (s, [], false) ∧ ∀ x ∈ s, x ≠ c := by
  intro s h
  have hn : ∀ x ∈ s, x ≠ c := by
    induction s with
    | nil => simp
    | cons x r ih =>
      by_cases hx : x = c
      · rw [cutAt, if_pos hx] at h; cases h
      · rw [cutAt, if_neg hx] at h
        intro y hy
        rcases List.mem_cons.1 hy with rfl | hy
        · exact hx
        · exact ih h y hy
  exact ⟨cutAt_none c s hn, hn⟩
theorem foldl_ge (r : Str) (n : Nat) : n * 10 ^ r.length ≤ r.foldl (fun n c => 10 * n + (c.toNat - 48)) n := by
  induction r generalizing n with
  | nil => simp
  | cons c r ih =>
    refine Nat.le_trans ?_ (ih (10 * n + (c.toNat - 48)))
    rw [List.length_cons, Nat.pow_succ, Nat.add_mul, Nat.mul_comm 10 n, Nat.mul_assoc, Nat.mul_comm 10 (10 ^ r.length)]
    exact Nat.le_add_right _ _
theorem isNum_len {s : Str} (h : isNum s 65535 = true) : s.length ≤ 5 := by
  obtain ⟨h0, h1, h2, h3⟩ := isNum_get h
  rcases Nat.lt_or_ge 5 s.length with hl | hl
  · exfalso
    cases s with
    | nil => exact h0 rfl
    | cons c r =>
      have hc : c ≠ 48 := by
        rcases h2 with h2 | h2
        · rw [List.length_cons] at h2 hl; omega
        · simpa using h2
      have hd := h1 c (by simp)
      unfold isDig at hd
      simp only [Bool.and_eq_true, decide_eq_true_eq] at hd
      have hv : c.toNat ≠ 48 := fun e => hc (UInt8.toNat_inj.1 (by rw [e]; rfl))
      have hg := foldl_ge r (10 * 0 + (c.toNat - 48))
      have hn : numVal (c :: r) = r.foldl (fun n c => 10 * n + (c.toNat - 48)) (10 * 0 + (c.toNat - 48)) := rfl
      rw [← hn] at hg
      have hl2 : 5 ≤ r.length := by rw [List.length_cons] at hl; omega
      have hp : 10 ^ 5 ≤ 10 ^ r.length := Nat.pow_le_pow_right (by omega) hl2
      have hm : 1 * 10 ^ r.length ≤ (10 * 0 + (c.toNat - 48)) * 10 ^ r.length := Nat.mul_le_mul_right _ (by omega)
      rw [Nat.one_mul] at hm
      have h6 : 100000 ≤ numVal (c :: r) := Nat.le_trans (Nat.le_trans hp hm) hg
      omega
  · exact hl
/-- What stands between the strokes of a URI. -/
def hostB (h : Str) : Bool := (!(cutAt 58 h).2.2 || isNum (cutAt 58 h).2.1 65535) && isName (cutAt 58 h).1
def pathB (r : Str) : Bool := !(cutAt 47 r).2.2 || (cutAt 47 r).2.1.isEmpty || isName (cutAt 47 r).2.1
def schB (s : Str) : Bool := (cutAt 58 s).2.2 && okLab (cutAt 58 s).1 && (small (cutAt 58 s).1 == (cutAt 58 s).1) && ((cutAt 58 s).2.1.take 2 == [47, 47])
/-- Whether a text is a URI. -/
def isHost (s : Str) : Bool := schB s && pathB ((cutAt 58 s).2.1.drop 2) && hostB (cutAt 47 ((cutAt 58 s).2.1.drop 2)).1
/-- A sign of a URI. -/
def uriC (c : UInt8) : Bool := isNC c || c == 58 || c == 47
theorem uriC_fine (c : UInt8) (h : uriC c = true) : c.toNat < 128 ∧ c.toNat ≠ 45 := by
  unfold uriC at h
  simp only [Bool.or_eq_true, beq_iff_eq] at h
  rcases h with (h | rfl) | rfl
  · exact nc_minus c h
  · decide
  · decide
theorem dig_nc (c : UInt8) (h : isDig c = true) : isNC c = true := by simp [isNC, isLD, h]
theorem ld_nc (c : UInt8) (h : isLD c = true) : isNC c = true := by simp [isNC, h]
theorem nc_not (c : UInt8) (h : isNC c = true) : c ≠ 58 ∧ c ≠ 47 ∧ c ≠ 64 := by
  refine ⟨?_, ?_, ?_⟩ <;> (rintro rfl; revert h; decide)
theorem okLab_all {l : Str} (h : okLab l = true) : ∀ x ∈ l, isLD x = true := by
  rw [okLab_pre] at h
  simp only [Bool.and_eq_true] at h
  exact preLab_all h.1.1
/-- What stands in a URI's text. -/
structure HostP (s : Str) (k : Nat) (h p : Str) : Prop where
  k0 : 0 < k
  sch : okLab (s.take k) = true
  col : s[k]? = some 58
  sl : (s.drop (k + 1)).take 2 = [47, 47]
  host : (cutAt 47 (s.drop (k + 3))).1 = h
  port : (cutAt 58 h).2.1 = p
  dig : ∀ x ∈ p, isDig x = true
  noat : ∀ x ∈ h, x ≠ 64
  one : h.count 58 ≤ 1
  chars : ∀ x ∈ s, uriC x = true
  len : s.length ≤ 120
theorem nc_uri (c : UInt8) (h : isNC c = true) : uriC c = true := by simp [uriC, h]
theorem hostB_get {h : Str} (hb : hostB h = true) : h.length ≤ 49 ∧ (∀ x ∈ h, uriC x = true ∧ x ≠ 64) ∧ h.count 58 ≤ 1 ∧ ∀ x ∈ (cutAt 58 h).2.1, isDig x = true := by
  unfold hostB at hb
  simp only [Bool.and_eq_true, Bool.or_eq_true, Bool.not_eq_true'] at hb
  obtain ⟨h1, h2⟩ := hb
  have hn : ∀ x ∈ (cutAt 58 h).1, isNC x = true := isName_mem h2
  have hl := name_len h2
  cases hc : (cutAt 58 h).2.2 with
  | false =>
    obtain ⟨he, hno⟩ := cutAt_false 58 h hc
    rw [he] at hn hl
    refine ⟨by simp at hl; omega, fun x hx => ⟨nc_uri x (hn x hx), (nc_not x (hn x hx)).2.2⟩, ?_, by rw [he]; simp⟩
    rw [List.count_eq_zero.2 (fun hm => hno 58 hm rfl)]; omega
  | true =>
    obtain ⟨he, hno⟩ := cutAt_true 58 h hc
    rcases h1 with h1 | h1
    · rw [hc] at h1; cases h1
    have hlen := isNum_len h1
    have hd := (isNum_get h1).2.1
    refine ⟨?_, ?_, ?_, hd⟩
    · rw [he, List.length_append, List.length_cons]; omega
    · intro x hx
      rw [he, List.mem_append, List.mem_cons] at hx
      rcases hx with hx | rfl | hx
      · exact ⟨nc_uri x (hn x hx), (nc_not x (hn x hx)).2.2⟩
      · exact ⟨by decide, by decide⟩
      · have := dig_nc x (hd x hx)
        exact ⟨nc_uri x this, (nc_not x this).2.2⟩
    · rw [he, List.count_append, List.count_cons_self, List.count_eq_zero.2 (fun hm => hno 58 hm rfl), List.count_eq_zero.2 (fun hm => (nc_not 58 (dig_nc 58 (hd 58 hm))).1 rfl)]
      omega
theorem isHost_get {s : Str} (h : isHost s = true) : ∃ k hh p, HostP s k hh p := by
  unfold isHost at h
  simp only [Bool.and_eq_true] at h
  obtain ⟨⟨h1, h2⟩, h3⟩ := h
  unfold schB at h1
  simp only [Bool.and_eq_true, beq_iff_eq] at h1
  obtain ⟨⟨⟨hc, hlab⟩, _⟩, hsl⟩ := h1
  obtain ⟨he, hno⟩ := cutAt_true 58 s hc
  generalize ha : (cutAt 58 s).1 = a at *
  generalize hr : (cutAt 58 s).2.1 = r at *
  obtain ⟨g1, g2, g3, g4⟩ := hostB_get h3
  have hal := okLab_len hlab
  have htk : s.take a.length = a := by rw [he, List.take_left']; rfl
  have hdr : s.drop (a.length + 1) = r := by rw [he, ← List.drop_drop, List.drop_left' rfl]; rfl
  have hdr3 : s.drop (a.length + 3) = r.drop 2 := by rw [← hdr, List.drop_drop]
  have hr2 : r = 47 :: 47 :: r.drop 2 := by
    have := List.take_append_drop 2 r
    rw [hsl] at this
    exact this.symm
  refine ⟨a.length, (cutAt 47 (r.drop 2)).1, _, ?_, by rw [htk]; exact hlab, ?_, by rw [hdr]; exact hsl, by rw [hdr3], rfl, g4, fun x hx => (g2 x hx).2, g3, ?_, ?_⟩
  · have := okLab_nil hlab
    cases a with
    | nil => exact absurd rfl this
    | cons _ _ => simp
  · rw [he, List.getElem?_append_right (Nat.le_refl _)]; simp
  · have hq : ∀ x ∈ r.drop 2, uriC x = true := by
      unfold pathB at h2
      cases hq : (cutAt 47 (r.drop 2)).2.2 with
      | false =>
        obtain ⟨e2, _⟩ := cutAt_false 47 _ hq
        rw [e2] at g2
        exact fun x hx => (g2 x hx).1
      | true =>
        obtain ⟨e2, _⟩ := cutAt_true 47 _ hq
        rw [hq] at h2
        simp only [Bool.not_true, Bool.false_or, Bool.or_eq_true, List.isEmpty_iff] at h2
        intro x hx
        rw [e2, List.mem_append, List.mem_cons] at hx
        rcases hx with hx | rfl | hx
        · exact (g2 x hx).1
        · decide
        · rcases h2 with h2 | h2
          · rw [h2] at hx; simp at hx
          · exact nc_uri x (isName_mem h2 x hx)
    intro x hx
    rw [he, List.mem_append, List.mem_cons] at hx
    rcases hx with hx | rfl | hx
    · exact nc_uri x (ld_nc x (okLab_all hlab x hx))
    · decide
    · rw [hr2] at hx
      simp only [List.mem_cons] at hx
      rcases hx with rfl | rfl | hx
      · decide
      · decide
      · exact hq x hx
  · have hq : (r.drop 2).length ≤ 93 := by
      unfold pathB at h2
      cases hq : (cutAt 47 (r.drop 2)).2.2 with
      | false =>
        obtain ⟨e2, _⟩ := cutAt_false 47 _ hq
        rw [e2] at g1
        simp only at g1
        omega
      | true =>
        obtain ⟨e2, _⟩ := cutAt_true 47 _ hq
        rw [hq] at h2
        simp only [Bool.not_true, Bool.false_or, Bool.or_eq_true, List.isEmpty_iff] at h2
        have hp : (cutAt 47 (r.drop 2)).2.1.length ≤ 43 := by
          rcases h2 with h2 | h2
          · rw [h2]; simp
          · exact name_len h2
        rw [e2, List.length_append, List.length_cons]
        omega
    have e1 : s.length = a.length + 1 + r.length := by rw [he]; simp; omega
    have e2 : r.length = 2 + (r.drop 2).length := by rw [hr2]; simp; omega
    omega
/-- Whether a text is a mail. -/
def isMail (s : Str) : Bool := (cutAt 64 s).2.2 && okLab (cutAt 64 s).1 && isName (cutAt 64 s).2.1
theorem isMail_fine {s : Str} (h : isMail s = true) : s.length ≤ 120 ∧ ∀ x ∈ s, x.toNat < 128 ∧ x.toNat ≠ 45 := by
  unfold isMail at h
  simp only [Bool.and_eq_true] at h
  obtain ⟨⟨h1, h2⟩, h3⟩ := h
  obtain ⟨he, _⟩ := cutAt_true 64 s h1
  have l1 := okLab_len h2
  have l2 := name_len h3
  refine ⟨by rw [he, List.length_append, List.length_cons]; omega, fun x hx => ?_⟩
  rw [he, List.mem_append, List.mem_cons] at hx
  rcases hx with hx | rfl | hx
  · exact nc_minus x (ld_nc x (okLab_all h2 x hx))
  · decide
  · exact nc_minus x (isName_mem h3 x hx)
end Go.Proofs.YtedniebpabfglaaGreatDoor.Pl
end
section
namespace Go.Proofs.YtedniebpabfglaaGreatDoor
open Go.RowKit

def HostPost (s : ByteArray) (w : World) (e : Ending) (w' : World) : Prop := ∃ t, e = .returned (.tuple #[.string t, .bool (Pl.isHost (bl s))]) ∧ Ext w w'
theorem Host_no {s : ByteArray} {w w' : World} (h : Pl.isHost (bl s) = false) (hb : Ext w w') : HostPost s w (.returned (.tuple #[.string ⟨#[]⟩, .bool false])) w' := ⟨_, by rw [h], hb⟩

end Go.Proofs.YtedniebpabfglaaGreatDoor
end
