/- The plain words of this seat's proofs: names, labels, mails and ranges as lists of bytes; nothing of the program stands here. -/
namespace Go.Proofs.YtedniebpabfglaaGreatDoor.Pl
abbrev Str := List UInt8

def isLet (c : UInt8) : Bool := (decide (97 ≤ c.toNat) && decide (c.toNat ≤ 122)) || (decide (65 ≤ c.toNat) && decide (c.toNat ≤ 90))
def isDig (c : UInt8) : Bool := decide (48 ≤ c.toNat) && decide (c.toNat ≤ 57)
def isLD (c : UInt8) : Bool := isLet c || isDig c
/-- One label: a letter first, letters and digits, at most ten. -/
def okLab : Str → Bool
  | [] => false
  | c :: r => isLet c && r.all isLD && decide (r.length ≤ 9)
/-- The parts between the dots. -/
def splitDot : Str → List Str
  | [] => [[]]
  | c :: r => if c = 46 then [] :: splitDot r else match splitDot r with
    | [] => [[c]]
    | h :: t => (c :: h) :: t
def isName (s : Str) : Bool := (splitDot s).all okLab && decide ((splitDot s).length ≤ 4)
def low (c : UInt8) : UInt8 := if 65 ≤ c.toNat ∧ c.toNat ≤ 90 then c + 32 else c
def small (s : Str) : Str := s.map low
/-- What stands behind '*.', if something does. -/
def star : Str → Option Str
  | 42 :: 46 :: x :: r => some (x :: r)
  | _ => none
def isDomain (c : Str) : Bool := match star c with
  | some r => isName r
  | none => isName c

theorem splitDot_ne (l : Str) : splitDot l ≠ [] := by
  cases l with
  | nil => simp [splitDot]
  | cons c r =>
    unfold splitDot
    split
    · simp
    · split <;> simp
theorem splitDot_plain (l : Str) (h : ∀ x ∈ l, x ≠ 46) : splitDot l = [l] := by
  induction l with
  | nil => rfl
  | cons c r ih =>
    rw [splitDot, if_neg (h c (by simp)), ih (fun x hx => h x (by simp [hx]))]
theorem splitDot_dot (l r : Str) (h : ∀ x ∈ l, x ≠ 46) : splitDot (l ++ 46 :: r) = l :: splitDot r := by
  induction l with
  | nil => simp [splitDot]
  | cons c t ih =>
    rw [List.cons_append, splitDot, if_neg (h c (by simp)), ih (fun x hx => h x (by simp [hx]))]
/-- The beginning of a label. -/
def preLab : Str → Bool
  | [] => true
  | c :: r => isLet c && r.all isLD
theorem isLet_ne (c : UInt8) (h : isLet c = true) : c ≠ 46 := by rintro rfl; revert h; decide
theorem isLD_ne (c : UInt8) (h : isLD c = true) : c ≠ 46 := by rintro rfl; revert h; decide
theorem isLD_of (c : UInt8) (h : isLet c = true) : isLD c = true := by simp [isLD, h]
theorem preLab_all {l : Str} (h : preLab l = true) : ∀ x ∈ l, isLD x = true := by
  cases l with
  | nil => simp
  | cons c r =>
    simp only [preLab, Bool.and_eq_true, List.all_eq_true] at h
    intro x hx
    rcases List.mem_cons.1 hx with rfl | hx
    · exact isLD_of _ h.1
    · exact h.2 x hx
theorem preLab_ne {l : Str} (h : preLab l = true) : ∀ x ∈ l, x ≠ 46 := fun x hx => isLD_ne x (preLab_all h x hx)
theorem preLab_snoc (l : Str) (c : UInt8) : preLab (l ++ [c]) = (preLab l && (isLet c || (isDig c && !l.isEmpty))) := by
  cases l with
  | nil => simp [preLab]
  | cons d r =>
    simp only [List.cons_append, preLab, List.all_append, List.all_cons, List.all_nil, Bool.and_true, List.isEmpty_cons, Bool.not_false, isLD]
    rw [Bool.and_assoc]
theorem okLab_pre (l : Str) : okLab l = (preLab l && !l.isEmpty && decide (l.length ≤ 10)) := by
  cases l with
  | nil => simp [okLab, preLab]
  | cons c r => simp [okLab, preLab]
/-- The head of the parts is what stands ahead of the first dot. -/
theorem splitDot_head (l r : Str) (h : ∀ x ∈ l, x ≠ 46) : ∃ t u, splitDot (l ++ r) = (l ++ t) :: u := by
  induction l with
  | nil =>
    cases hs : splitDot r with
    | nil => exact absurd hs (splitDot_ne r)
    | cons a b => exact ⟨a, b, by simp [hs]⟩
  | cons c l ih =>
    obtain ⟨t, u, e⟩ := ih (fun x hx => h x (by simp [hx]))
    exact ⟨t, u, by rw [List.cons_append, splitDot, if_neg (h c (by simp)), e]; rfl⟩
theorem preLab_append {l t : Str} (h : preLab (l ++ t) = true) : preLab l = true := by
  cases l with
  | nil => rfl
  | cons c r =>
    simp only [List.cons_append, preLab, List.all_append, Bool.and_eq_true] at h ⊢
    exact ⟨h.1, h.2.1⟩
/-- A sign that no label may bear there: the parts are not all labels. -/
theorem bad_head (l : Str) (c : UInt8) (r : Str) (h : ∀ x ∈ l, x ≠ 46) (hc : c ≠ 46) (hb : preLab (l ++ [c]) = false) : (splitDot (l ++ c :: r)).all okLab = false := by
  obtain ⟨t, u, e⟩ := splitDot_head (l ++ [c]) r (fun x hx => by
    rcases List.mem_append.1 hx with hx | hx
    · exact h x hx
    · simp at hx; subst hx; exact hc)
  rw [show l ++ c :: r = (l ++ [c]) ++ r by simp, e, List.all_cons, okLab_pre]
  cases hp : preLab (l ++ [c] ++ t) with
  | true => rw [preLab_append hp] at hb; cases hb
  | false => simp
theorem isName_iff (s : Str) : isName s = ((splitDot s).all okLab && decide ((splitDot s).length ≤ 4)) := rfl
theorem splitDot_len (l : Str) : (splitDot l).length ≤ l.length + 1 := by
  induction l with
  | nil => simp [splitDot]
  | cons c r ih =>
    unfold splitDot
    split
    · simpa using ih
    · split
      · simp
      · rename_i e; rw [e] at ih; simp at ih ⊢; omega
/-- What stands ahead of a sign, what stands behind it, and whether there is one. -/
def cutAt (c : UInt8) : Str → Str × Str × Bool
  | [] => ([], [], false)
  | x :: r => if x = c then ([], r, true) else (x :: (cutAt c r).1, (cutAt c r).2.1, (cutAt c r).2.2)
theorem cutAt_none (c : UInt8) (l : Str) (h : ∀ x ∈ l, x ≠ c) : cutAt c l = (l, [], false) := by
  induction l with
  | nil => rfl
  | cons x r ih => rw [cutAt, if_neg (h x (by simp)), ih (fun y hy => h y (by simp [hy]))]
theorem cutAt_at (c : UInt8) (l r : Str) (h : ∀ x ∈ l, x ≠ c) : cutAt c (l ++ c :: r) = (l, r, true) := by
  induction l with
  | nil => simp [cutAt]
  | cons x t ih => rw [List.cons_append, cutAt, if_neg (h x (by simp)), ih (fun y hy => h y (by simp [hy]))]
/-- A constraint of mails: a mail, a name, or a name behind an @; small letters alone. -/
def boxOf (c : Str) : Str := if (cutAt 64 c).2.2 then (cutAt 64 c).1 else []
def hostOf (c : Str) : Str := if (cutAt 64 c).2.2 then (cutAt 64 c).2.1 else c
def isMailbox (c : Str) : Bool := isName (hostOf c) && ((boxOf c).isEmpty || okLab (boxOf c)) && (small c == c)
/-- A number in decimal, not above another one. -/
def numVal (s : Str) : Nat := s.foldl (fun n c => 10 * n + (c.toNat - 48)) 0
def isNum (s : Str) (most : Nat) : Bool := !s.isEmpty && s.all isDig && (decide (s.length ≤ 1) || !(s.headD 0 == 48)) && decide (numVal s ≤ most)
theorem numVal_snoc (s : Str) (c : UInt8) : numVal (s ++ [c]) = 10 * numVal s + (c.toNat - 48) := by simp [numVal]
theorem numVal_mono (s t : Str) : numVal s ≤ numVal (s ++ t) := by
  induction t generalizing s with
  | nil => simp
  | cons c t ih =>
    have h := ih (s ++ [c])
    rw [numVal_snoc] at h
    rw [show s ++ c :: t = (s ++ [c]) ++ t by simp]
    omega
/-- Whether a part stands in a text at a place. -/
def at_ (s p : Str) (i : Nat) : Bool := (s.drop i).take p.length == p
def has (s p : Str) : Bool := (List.range (s.length + 1 - p.length)).any (at_ s p)
theorem has_false {s p : Str} (h : ∀ i, i + p.length ≤ s.length → at_ s p i = false) : has s p = false := by
  unfold has
  rw [List.any_eq_false]
  intro i hi
  rw [List.mem_range] at hi
  rw [h i (by omega)]
  simp
theorem has_true {s p : Str} (i : Nat) (hi : i + p.length ≤ s.length) (h : at_ s p i = true) : has s p = true := by
  unfold has
  rw [List.any_eq_true]
  exact ⟨i, by rw [List.mem_range]; omega, h⟩
/-- A part with a sign that the text lacks stands nowhere in it. -/
theorem has_no {s p : Str} (c : UInt8) (hp : c ∈ p) (hs : c ∉ s) : has s p = false := by
  refine has_false fun i hi => ?_
  unfold at_
  rw [beq_eq_false_iff_ne]
  intro e
  have : c ∈ (s.drop i).take p.length := by rw [e]; exact hp
  exact hs (List.mem_of_mem_drop (List.mem_of_mem_take this))
theorem at_one {s : Str} {c : UInt8} {i : Nat} : at_ s [c] i = (s[i]? == some c) := by
  unfold at_
  rw [List.length_singleton]
  cases h : s.drop i with
  | nil =>
    have : s.length ≤ i := List.drop_eq_nil_iff.1 h
    rw [List.getElem?_eq_none this]; rfl
  | cons x r =>
    have : s[i]? = some x := by
      have h2 := congrArg (fun l => l[0]?) h
      simpa using h2
    rw [this]
    simp
theorem has_one {s : Str} {c : UInt8} (h : c ∈ s) : has s [c] = true := by
  obtain ⟨i, hi, he⟩ := List.mem_iff_getElem.1 h
  refine has_true i (by simp; omega) ?_
  rw [at_one, List.getElem?_eq_getElem hi, he]; simp
/-- The signs of a name: letters, digits and dots. -/
def isNC (c : UInt8) : Bool := isLD c || c == 46
theorem splitDot_mem {l : Str} (h : (splitDot l).all okLab = true) : ∀ x ∈ l, isNC x = true := by
  induction l with
  | nil => simp
  | cons c r ih =>
    intro x hx
    rw [splitDot] at h
    by_cases hc : c = 46
    · rw [if_pos hc] at h
      simp [okLab] at h
    · rw [if_neg hc] at h
      cases hs : splitDot r with
      | nil => exact absurd hs (splitDot_ne r)
      | cons a b =>
        rw [hs] at h
        simp only [List.all_cons, okLab, Bool.and_eq_true] at h
        obtain ⟨⟨⟨h1, h2⟩, h3⟩, h4⟩ := h
        rcases List.mem_cons.1 hx with rfl | hx
        · simp [isNC, isLD, h1]
        · -- the rest: its signs are label signs, or they stand behind a dot
          have key : ∀ (l : Str) (a : Str) (b : List Str), splitDot l = a :: b → a.all isLD = true → b.all okLab = true → ∀ x ∈ l, isNC x = true := by
            intro l
            induction l with
            | nil => intro a b _ _ _ x hx; simp at hx
            | cons d t ih2 =>
              intro a b e ha hb x hx
              rw [splitDot] at e
              by_cases hd : d = 46
              · rw [if_pos hd] at e
                injection e with e1 e2
                rcases List.mem_cons.1 hx with rfl | hx
                · simp [isNC, hd]
                · cases ht : splitDot t with
                  | nil => exact absurd ht (splitDot_ne t)
                  | cons a' b' =>
                    refine ih2 a' b' ht ?_ ?_ x hx
                    · rw [← e2, ht] at hb
                      simp only [List.all_cons, Bool.and_eq_true] at hb
                      have h5 := hb.1
                      rw [okLab_pre] at h5
                      simp only [Bool.and_eq_true] at h5
                      rw [List.all_eq_true]
                      exact preLab_all h5.1.1
                    · rw [← e2, ht] at hb
                      simp only [List.all_cons, Bool.and_eq_true] at hb
                      exact hb.2
              · rw [if_neg hd] at e
                cases ht : splitDot t with
                | nil => exact absurd ht (splitDot_ne t)
                | cons a' b' =>
                  rw [ht] at e
                  injection e with e1 e2
                  rw [← e1] at ha
                  simp only [List.all_cons, Bool.and_eq_true] at ha
                  rcases List.mem_cons.1 hx with rfl | hx
                  · simp [isNC, ha.1]
                  · exact ih2 a' b' ht ha.2 (by rw [e2]; exact hb) x hx
          exact key r a b hs h2 h4 x hx
theorem isName_mem {l : Str} (h : isName l = true) : ∀ x ∈ l, isNC x = true := by
  rw [isName_iff, Bool.and_eq_true] at h
  exact splitDot_mem h.1
theorem drop_cut (l : Str) (f k : Nat) (h : f ≤ k) : l.drop f = (l.drop f).take (k - f) ++ l.drop k := by
  have := List.take_append_drop (k - f) (l.drop f)
  rw [List.drop_drop, show f + (k - f) = k by omega] at this
  exact this.symm
theorem drop_at (l : Str) (k : Nat) (h : k < l.length) : l.drop k = l[k] :: l.drop (k + 1) := List.drop_eq_getElem_cons h
theorem take_next (l : Str) (f k : Nat) (hf : f ≤ k) (hk : k < l.length) : (l.drop f).take (k + 1 - f) = (l.drop f).take (k - f) ++ [l[k]] := by
  rw [show k + 1 - f = (k - f) + 1 by omega, List.take_succ_eq_append_getElem (by rw [List.length_drop]; omega)]
  congr 2
  rw [List.getElem_drop]
  congr 1
  omega
/-- What holds in Labels behind some rounds: the labels so far, and the beginning of the next one. -/
structure LabInv (l : Str) (k f : Nat) (out : List Str) : Prop where
  hf : f ≤ k
  hk : k ≤ l.length + 1
  all : out.all okLab = true
  mid : k ≤ l.length → out ++ splitDot (l.drop f) = splitDot l ∧ preLab ((l.drop f).take (k - f)) = true
  fin : k = l.length + 1 → out = splitDot l
theorem LabInv.start (l : Str) : LabInv l 0 0 [] := ⟨by omega, by omega, rfl, fun _ => ⟨by simp, by simp [preLab]⟩, fun h => by omega⟩
theorem LabInv.char {l : Str} {k f : Nat} {out : List Str} (h : LabInv l k f out) (hk : k < l.length) (hc : isLet l[k] = true ∨ (isDig l[k] = true ∧ k ≠ f)) : LabInv l (k + 1) f out := by
  obtain ⟨h1, h2⟩ := h.mid (by omega)
  refine ⟨by have := h.hf; omega, by omega, h.all, fun _ => ⟨h1, ?_⟩, fun e => by omega⟩
  rw [take_next l f k h.hf hk, preLab_snoc, h2]
  rcases hc with hc | ⟨hc, hne⟩
  · simp [hc]
  · have : ((l.drop f).take (k - f)).isEmpty = false := by
      rw [List.isEmpty_eq_false_iff, ne_eq, ← List.length_eq_zero_iff, List.length_take, List.length_drop]
      have := h.hf; omega
    simp [hc, this]
theorem LabInv.bad_char {l : Str} {k f : Nat} {out : List Str} (h : LabInv l k f out) (hk : k < l.length) (hd : l[k] ≠ 46) (hl : isLet l[k] = false) (hc : isDig l[k] = false ∨ k = f) : (splitDot l).all okLab = false := by
  obtain ⟨h1, h2⟩ := h.mid (by omega)
  rw [← h1, List.all_append, drop_cut l f k h.hf, drop_at l k hk, bad_head _ _ _ (preLab_ne h2) hd, Bool.and_false]
  rw [preLab_snoc, h2, hl]
  rcases hc with hc | rfl
  · simp [hc]
  · simp
theorem LabInv.bad_dot {l : Str} {k f : Nat} {out : List Str} (h : LabInv l k f out) (hk : k ≤ l.length) (hd : ∀ hk : k < l.length, l[k] = 46) (hc : k = f ∨ 10 < k - f) : (splitDot l).all okLab = false := by
  obtain ⟨h1, h2⟩ := h.mid hk
  have hlab : okLab ((l.drop f).take (k - f)) = false := by
    rw [okLab_pre]
    rcases hc with rfl | hc
    · simp
    · have : ((l.drop f).take (k - f)).length = k - f := by rw [List.length_take, List.length_drop]; omega
      rw [this]; simp; omega
  rw [← h1, List.all_append, drop_cut l f k h.hf]
  rcases Nat.lt_or_ge k l.length with hlt | hge
  · rw [drop_at l k hlt, hd hlt, splitDot_dot _ _ (preLab_ne h2), List.all_cons, hlab]; simp
  · rw [List.drop_of_length_le hge, List.append_nil, splitDot_plain _ (preLab_ne h2), List.all_cons, hlab]; simp
theorem LabInv.dot {l : Str} {k f : Nat} {out : List Str} (h : LabInv l k f out) (hk : k ≤ l.length) (hd : ∀ hk : k < l.length, l[k] = 46) (hne : k ≠ f) (hle : k - f ≤ 10) :
    LabInv l (k + 1) (k + 1) (out ++ [(l.drop f).take (k - f)]) := by
  obtain ⟨h1, h2⟩ := h.mid hk
  have hf := h.hf
  have hlen : ((l.drop f).take (k - f)).length = k - f := by rw [List.length_take, List.length_drop]; omega
  have hlab : okLab ((l.drop f).take (k - f)) = true := by
    rw [okLab_pre, h2, hlen]
    have : ((l.drop f).take (k - f)).isEmpty = false := by
      rw [List.isEmpty_eq_false_iff, ne_eq, ← List.length_eq_zero_iff, hlen]; omega
    simp [this]; omega
  refine ⟨by omega, by omega, by simp [h.all, hlab], fun hk1 => ?_, fun e => ?_⟩
  · have hlt : k < l.length := by omega
    refine ⟨?_, by simp [preLab]⟩
    rw [← h1, drop_cut l f k hf, drop_at l k hlt, hd hlt, splitDot_dot _ _ (preLab_ne h2)]
    simp only [List.append_assoc, List.singleton_append]
    rw [← hd hlt, ← drop_at l k hlt, ← drop_cut l f k hf]
  · have : k = l.length := by omega
    rw [← h1]
    congr 1
    have e2 := drop_cut l f k hf
    rw [List.drop_of_length_le (show l.length ≤ k by omega), List.append_nil] at e2
    rw [← e2, splitDot_plain]
    rw [e2]; exact preLab_ne h2
theorem okLab_ne {l : Str} (h : okLab l = true) : ∀ x ∈ l, x ≠ 46 := by
  rw [okLab_pre] at h
  simp only [Bool.and_eq_true] at h
  exact preLab_ne h.1.1
theorem okLab_split {l : Str} (h : okLab l = true) : splitDot l = [l] := splitDot_plain l (okLab_ne h)
theorem okLab_name {l : Str} (h : okLab l = true) : isName l = true := by rw [isName_iff, okLab_split h]; simp [h]
theorem splitDot_one {l a : Str} (h : splitDot l = [a]) : l = a := by
  induction l generalizing a with
  | nil => simpa [splitDot] using h
  | cons c r ih =>
    rw [splitDot] at h
    by_cases hc : c = 46
    · rw [if_pos hc] at h
      injection h with h1 h2
      exact absurd h2 (splitDot_ne r)
    · rw [if_neg hc] at h
      cases hs : splitDot r with
      | nil => exact absurd hs (splitDot_ne r)
      | cons d t =>
        rw [hs] at h
        injection h with h1 h2
        subst h2
        rw [ih hs, h1]
theorem isBox_eq (l : Str) : okLab l = (isName l && decide ((splitDot l).length = 1)) := by
  cases h : okLab l with
  | true => rw [okLab_name h, okLab_split h]; rfl
  | false =>
    cases hn : isName l with
    | false => rfl
    | true =>
      symm
      rw [Bool.true_and, decide_eq_false_iff_not]
      intro h1
      match hs : splitDot l, h1 with
      | [a], _ =>
        rw [isName_iff, hs] at hn
        rw [splitDot_one hs] at h
        simp [h] at hn
theorem isNum_bad_char {s : Str} {most k : Nat} (hk : k < s.length) (h : isDig s[k] = false) : isNum s most = false := by
  unfold isNum
  have : s.all isDig = false := by rw [List.all_eq_false]; exact ⟨s[k], List.getElem_mem hk, by simp [h]⟩
  simp [this]
theorem isNum_bad_zero {s : Str} {most : Nat} (h1 : 1 < s.length) (h : s.headD 0 = 48) : isNum s most = false := by
  unfold isNum
  have e1 : decide (s.length ≤ 1) = false := by simp; omega
  have e2 : (!(s.headD 0 == 48)) = false := by rw [h]; rfl
  rw [e1, e2]; simp
theorem isNum_bad_val {s : Str} {most k : Nat} (h : most < numVal (s.take k)) : isNum s most = false := by
  unfold isNum
  have h2 := numVal_mono (s.take k) (s.drop k)
  rw [List.take_append_drop] at h2
  have : decide (numVal s ≤ most) = false := by simp; omega
  simp [this]
theorem isNum_empty (most : Nat) : isNum [] most = false := rfl
theorem isNum_ok {s : Str} {most : Nat} (h0 : s ≠ []) (h1 : ∀ k, (h : k < s.length) → isDig s[k] = true) (h2 : s.length ≤ 1 ∨ s.headD 0 ≠ 48) (h3 : numVal s ≤ most) : isNum s most = true := by
  unfold isNum
  have e0 : s.isEmpty = false := by simpa using h0
  have e1 : s.all isDig = true := by
    rw [List.all_eq_true]
    intro x hx
    obtain ⟨k, hk, rfl⟩ := List.mem_iff_getElem.1 hx
    exact h1 k hk
  have e2 : (decide (s.length ≤ 1) || !(s.headD 0 == 48)) = true := by
    rcases h2 with h2 | h2
    · simp [h2]
    · rw [Bool.or_eq_true]; right; simpa using h2
  rw [e0, e1, e2]
  simpa using h3
theorem isNum_get {s : Str} {most : Nat} (h : isNum s most = true) : s ≠ [] ∧ (∀ x ∈ s, isDig x = true) ∧ (s.length ≤ 1 ∨ s.headD 0 ≠ 48) ∧ numVal s ≤ most := by
  unfold isNum at h
  simp only [Bool.and_eq_true, Bool.not_eq_true', Bool.or_eq_true, decide_eq_true_eq, List.all_eq_true] at h
  obtain ⟨⟨⟨h0, h1⟩, h2⟩, h3⟩ := h
  refine ⟨by simpa using h0, h1, ?_, h3⟩
  rcases h2 with h2 | h2
  · exact .inl h2
  · exact .inr (by simpa using h2)
theorem numVal_take_succ (s : Str) (k : Nat) (h : k < s.length) : numVal (s.take (k + 1)) = 10 * numVal (s.take k) + (s[k].toNat - 48) := by
  rw [List.take_succ_eq_append_getElem h, numVal_snoc]
/-- Four numbers between dots; ahead of a stroke, where there is one, behind which stands how many bits count. -/
def octsOk : Nat → Str → Bool
  | 0, _ => true
  | n + 1, s => isNum (cutAt 46 s).1 255 && ((cutAt 46 s).2.2 == decide (0 < n)) && octsOk n (cutAt 46 s).2.1
def isRange (c : Str) : Bool := (!(cutAt 47 c).2.2 || isNum (cutAt 47 c).2.1 32) && octsOk 4 (cutAt 47 c).1
end Go.Proofs.YtedniebpabfglaaGreatDoor.Pl
