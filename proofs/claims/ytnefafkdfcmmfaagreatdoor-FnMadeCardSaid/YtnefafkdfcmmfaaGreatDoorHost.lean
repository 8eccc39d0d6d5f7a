/- Plain words: URIs and mails as the reference reads them; a name is made of its parts. The walks of spec.Host, spec.IsMail and the closures of spec.AreNames. -/
import Derived.Test.YtnefafkdfcmmfaaGreatDoorPlain5
import Derived.Test.YtnefafkdfcmmfaaGreatDoorIsPolicy
section
namespace Go.Proofs.YtnefafkdfcmmfaaGreatDoor.Pl

def joinDot : List Str → Str
  | [] => []
  | [a] => a
  | a :: b :: t => a ++ 46 :: joinDot (b :: t)
theorem joinDot_split (l : Str) : joinDot (splitDot l) = l := by
  induction l with
  | nil => rfl
  | cons c r ih =>
    rw [splitDot]
    cases hs : splitDot r with
    | nil => exact absurd hs (splitDot_ne r)
    | cons a t =>
      rw [hs] at ih
      by_cases hc : c = 46
      · rw [if_pos hc, joinDot, ih, hc]; rfl
      · rw [if_neg hc]
        cases t with
        | nil => rw [joinDot] at ih ⊢; rw [ih]
        | cons b t => rw [joinDot] at ih ⊢; rw [List.cons_append, ih]
theorem splitDot_inj {a b : Str} (h : splitDot a = splitDot b) : a = b := by rw [← joinDot_split a, h, joinDot_split]
theorem split_small_eq (c n : Str) : ((splitDot n).map small == (splitDot c).map small) = (small n == small c) := by
  rw [← small_split, ← small_split, Bool.eq_iff_iff, beq_iff_eq, beq_iff_eq]
  exact ⟨splitDot_inj, fun h => by rw [h]⟩
theorem cutAt_true (c : UInt8) : ∀ s : Str, (cutAt c s).2.2 = true → s = (cutAt c s).1 ++ c :: (cutAt c s).2.1 ∧ ∀ x ∈ (cutAt c s).1, x ≠ c := by
  intro s
  induction s with
  | nil => intro h; cases h
  | cons x r ih =>
    intro h
    by_cases hx : x = c
    · rw [cutAt, if_pos hx] at h ⊢
      exact ⟨by rw [hx]; rfl, by simp⟩
    · rw [cutAt, if_neg hx] at h ⊢
      obtain ⟨h1, h2⟩ := ih h
      refine ⟨by show x :: r = x :: (_ ++ _); rw [← h1], fun y hy => ?_⟩
      rcases List.mem_cons.1 hy with rfl | hy
      · exact hx
      · exact h2 y hy
theorem cutAt_false (c : UInt8) : ∀ s : Str, (cutAt c s).2.2 = false → cutAt c s = (s, [], false) ∧ ∀ x ∈ s, x ≠ c := by
  intro s h
  have hn : ∀ x ∈ s, x ≠ c := by
    induction s with
    | nil => simp
    | cons x r ih =>
      by_cases hx : x = c
      · rw [cutAt, if_pos hx] at h; cases h
      · rw [cutAt, if_neg hx] at h
        intro y hy
        rcases List.mem_cons.1 hy with rfl | hy
        · exact hx
        · exact ih h y hy
  exact ⟨cutAt_none c s hn, hn⟩
theorem foldl_ge (r : Str) (n : Nat) : n * 10 ^ r.length ≤ r.foldl (fun n c => 10 * n + (c.toNat - 48)) n := by
  induction r generalizing n with
  | nil => simp
  | cons c r ih =>
    refine Nat.le_trans ?_ (ih (10 * n + (c.toNat - 48)))
    rw [List.length_cons, Nat.pow_succ, Nat.add_mul, Nat.mul_comm 10 n, Nat.mul_assoc, Nat.mul_comm 10 (10 ^ r.length)]
    exact Nat.le_add_right _ _
theorem isNum_len {s : Str} (h : isNum s 65535 = true) : s.length ≤ 5 := by
  obtain ⟨h0, h1, h2, h3⟩ := isNum_get h
  rcases Nat.lt_or_ge 5 s.length with hl | hl
  · exfalso
    cases s with
    | nil => exact h0 rfl
    | cons c r =>
      have hc : c ≠ 48 := by
        rcases h2 with h2 | h2
        · rw [List.length_cons] at h2 hl; omega
        · simpa using h2
      have hd := h1 c (by simp)
      unfold isDig at hd
      simp only [Bool.and_eq_true, decide_eq_true_eq] at hd
      have hv : c.toNat ≠ 48 := fun e => hc (UInt8.toNat_inj.1 (by rw [e]; rfl))
      have hg := foldl_ge r (10 * 0 + (c.toNat - 48))
      have hn : numVal (c :: r) = r.foldl (fun n c => 10 * n + (c.toNat - 48)) (10 * 0 + (c.toNat - 48)) := rfl
      rw [← hn] at hg
      have hl2 : 5 ≤ r.length := by rw [List.length_cons] at hl; omega
      have hp : 10 ^ 5 ≤ 10 ^ r.length := Nat.pow_le_pow_right (by omega) hl2
      have hm : 1 * 10 ^ r.length ≤ (10 * 0 + (c.toNat - 48)) * 10 ^ r.length := Nat.mul_le_mul_right _ (by omega)
      rw [Nat.one_mul] at hm
      have h6 : 100000 ≤ numVal (c :: r) := Nat.le_trans (Nat.le_trans hp hm) hg
      omega
  · exact hl
/-- What stands between the strokes of a URI. -/
def hostB (h : Str) : Bool := (!(cutAt 58 h).2.2 || isNum (cutAt 58 h).2.1 65535) && isName (cutAt 58 h).1
def pathB (r : Str) : Bool := !(cutAt 47 r).2.2 || (cutAt 47 r).2.1.isEmpty || isName (cutAt 47 r).2.1
def schB (s : Str) : Bool := (cutAt 58 s).2.2 && okLab (cutAt 58 s).1 && (small (cutAt 58 s).1 == (cutAt 58 s).1) && ((cutAt 58 s).2.1.take 2 == [47, 47])
/-- Whether a text is a URI. -/
def isHost (s : Str) : Bool := schB s && pathB ((cutAt 58 s).2.1.drop 2) && hostB (cutAt 47 ((cutAt 58 s).2.1.drop 2)).1
/-- A sign of a URI. -/
def uriC (c : UInt8) : Bool := isNC c || c == 58 || c == 47
theorem uriC_fine (c : UInt8) (h : uriC c = true) : c.toNat < 128 ∧ c.toNat ≠ 45 := by
  unfold uriC at h
  simp only [Bool.or_eq_true, beq_iff_eq] at h
  rcases h with (h | rfl) | rfl
  · exact nc_minus c h
  · decide
  · decide
theorem dig_nc (c : UInt8) (h : isDig c = true) : isNC c = true := by simp [isNC, isLD, h]
theorem ld_nc (c : UInt8) (h : isLD c = true) : isNC c = true := by simp [isNC, h]
theorem nc_not (c : UInt8) (h : isNC c = true) : c ≠ 58 ∧ c ≠ 47 ∧ c ≠ 64 := by
  refine ⟨?_, ?_, ?_⟩ <;> (rintro rfl; revert h; decide)
theorem okLab_all {l : Str} (h : okLab l = true) : ∀ x ∈ l, isLD x = true := by
  rw [okLab_pre] at h
  simp only [Bool.and_eq_true] at h
  exact preLab_all h.1.1
/-- What stands in a URI's text. -/
structure HostP (s : Str) (k : Nat) (h p : Str) : Prop where
  k0 : 0 < k
  sch : okLab (s.take k) = true
  col : s[k]? = some 58
  sl : (s.drop (k + 1)).take 2 = [47, 47]
  host : (cutAt 47 (s.drop (k + 3))).1 = h
  port : (cutAt 58 h).2.1 = p
  dig : ∀ x ∈ p, isDig x = true
  noat : ∀ x ∈ h, x ≠ 64
  one : h.count 58 ≤ 1
  chars : ∀ x ∈ s, uriC x = true
  len : s.length ≤ 120
theorem nc_uri (c : UInt8) (h : isNC c = true) : uriC c = true := by simp [uriC, h]
theorem hostB_get {h : Str} (hb : hostB h = true) : h.length ≤ 49 ∧ (∀ x ∈ h, uriC x = true ∧ x ≠ 64) ∧ h.count 58 ≤ 1 ∧ ∀ x ∈ (cutAt 58 h).2.1, isDig x = true := by
  unfold hostB at hb
  simp only [Bool.and_eq_true, Bool.or_eq_true, Bool.not_eq_true'] at hb
  obtain ⟨h1, h2⟩ := hb
  have hn : ∀ x ∈ (cutAt 58 h).1, isNC x = true := isName_mem h2
  have hl := name_len h2
  cases hc : (cutAt 58 h).2.2 with
  | false =>
    obtain ⟨he, hno⟩ := cutAt_false 58 h hc
    rw [he] at hn hl
    refine ⟨by simp at hl; omega, fun x hx => ⟨nc_uri x (hn x hx), (nc_not x (hn x hx)).2.2⟩, ?_, by rw [he]; simp⟩
    rw [List.count_eq_zero.2 (fun hm => hno 58 hm rfl)]; omega
  | true =>
    obtain ⟨he, hno⟩ := cutAt_true 58 h hc
    rcases h1 with h1 | h1
    · rw [hc] at h1; cases h1
    have hlen := isNum_len h1
    have hd := (isNum_get h1).2.1
    refine ⟨?_, ?_, ?_, hd⟩
    · rw [he, List.length_append, List.length_cons]; omega
    · intro x hx
      rw [he, List.mem_append, List.mem_cons] at hx
      rcases hx with hx | rfl | hx
      · exact ⟨nc_uri x (hn x hx), (nc_not x (hn x hx)).2.2⟩
      · exact ⟨by decide, by decide⟩
      · have := dig_nc x (hd x hx)
        exact ⟨nc_uri x this, (nc_not x this).2.2⟩
    · rw [he, List.count_append, List.count_cons_self, List.count_eq_zero.2 (fun hm => hno 58 hm rfl), List.count_eq_zero.2 (fun hm => (nc_not 58 (dig_nc 58 (hd 58 hm))).1 rfl)]
      omega
theorem isHost_get {s : Str} (h : isHost s = true) : ∃ k hh p, HostP s k hh p := by
  unfold isHost at h
  simp only [Bool.and_eq_true] at h
  obtain ⟨⟨h1, h2⟩, h3⟩ := h
  unfold schB at h1
  simp only [Bool.and_eq_true, beq_iff_eq] at h1
  obtain ⟨⟨⟨hc, hlab⟩, _⟩, hsl⟩ := h1
  obtain ⟨he, hno⟩ := cutAt_true 58 s hc
  generalize ha : (cutAt 58 s).1 = a at *
  generalize hr : (cutAt 58 s).2.1 = r at *
  obtain ⟨g1, g2, g3, g4⟩ := hostB_get h3
  have hal := okLab_len hlab
  have htk : s.take a.length = a := by rw [he, List.take_left']; rfl
  have hdr : s.drop (a.length + 1) = r := by rw [he, ← List.drop_drop, List.drop_left' rfl]; rfl
  have hdr3 : s.drop (a.length + 3) = r.drop 2 := by rw [← hdr, List.drop_drop]
  have hr2 : r = 47 :: 47 :: r.drop 2 := by
    have := List.take_append_drop 2 r
    rw [hsl] at this
    exact this.symm
  refine ⟨a.length, (cutAt 47 (r.drop 2)).1, _, ?_, by rw [htk]; exact hlab, ?_, by rw [hdr]; exact hsl, by rw [hdr3], rfl, g4, fun x hx => (g2 x hx).2, g3, ?_, ?_⟩
  · have := okLab_nil hlab
    cases a with
    | nil => exact absurd rfl this
    | cons _ _ => simp
  · rw [he, List.getElem?_append_right (Nat.le_refl _)]; simp
  · have hq : ∀ x ∈ r.drop 2, uriC x = true := by
      unfold pathB at h2
      cases hq : (cutAt 47 (r.drop 2)).2.2 with
      | false =>
        obtain ⟨e2, _⟩ := cutAt_false 47 _ hq
        rw [e2] at g2
        exact fun x hx => (g2 x hx).1
      | true =>
        obtain ⟨e2, _⟩ := cutAt_true 47 _ hq
        rw [hq] at h2
        simp only [Bool.not_true, Bool.false_or, Bool.or_eq_true, List.isEmpty_iff] at h2
        intro x hx
        rw [e2, List.mem_append, List.mem_cons] at hx
        rcases hx with hx | rfl | hx
        · exact (g2 x hx).1
        · decide
        · rcases h2 with h2 | h2
          · rw [h2] at hx; simp at hx
          · exact nc_uri x (isName_mem h2 x hx)
    intro x hx
    rw [he, List.mem_append, List.mem_cons] at hx
    rcases hx with hx | rfl | hx
    · exact nc_uri x (ld_nc x (okLab_all hlab x hx))
    · decide
    · rw [hr2] at hx
      simp only [List.mem_cons] at hx
      rcases hx with rfl | rfl | hx
      · decide
      · decide
      · exact hq x hx
  · have hq : (r.drop 2).length ≤ 93 := by
      unfold pathB at h2
      cases hq : (cutAt 47 (r.drop 2)).2.2 with
      | false =>
        obtain ⟨e2, _⟩ := cutAt_false 47 _ hq
        rw [e2] at g1
        simp only at g1
        omega
      | true =>
        obtain ⟨e2, _⟩ := cutAt_true 47 _ hq
        rw [hq] at h2
        simp only [Bool.not_true, Bool.false_or, Bool.or_eq_true, List.isEmpty_iff] at h2
        have hp : (cutAt 47 (r.drop 2)).2.1.length ≤ 43 := by
          rcases h2 with h2 | h2
          · rw [h2]; simp
          · exact name_len h2
        rw [e2, List.length_append, List.length_cons]
        omega
    have e1 : s.length = a.length + 1 + r.length := by rw [he]; simp; omega
    have e2 : r.length = 2 + (r.drop 2).length := by rw [hr2]; simp; omega
    omega
/-- Whether a text is a mail. -/
def isMail (s : Str) : Bool := (cutAt 64 s).2.2 && okLab (cutAt 64 s).1 && isName (cutAt 64 s).2.1
theorem isMail_fine {s : Str} (h : isMail s = true) : s.length ≤ 120 ∧ ∀ x ∈ s, x.toNat < 128 ∧ x.toNat ≠ 45 := by
  unfold isMail at h
  simp only [Bool.and_eq_true] at h
  obtain ⟨⟨h1, h2⟩, h3⟩ := h
  obtain ⟨he, _⟩ := cutAt_true 64 s h1
  have l1 := okLab_len h2
  have l2 := name_len h3
  refine ⟨by rw [he, List.length_append, List.length_cons]; omega, fun x hx => ?_⟩
  rw [he, List.mem_append, List.mem_cons] at hx
  rcases hx with hx | rfl | hx
  · exact nc_minus x (ld_nc x (okLab_all h2 x hx))
  · decide
  · exact nc_minus x (isName_mem h3 x hx)
end Go.Proofs.YtnefafkdfcmmfaaGreatDoor.Pl
end
section
namespace Go.Proofs.YtnefafkdfcmmfaaGreatDoor
open Go.RowKit

def HostPost (s : ByteArray) (w : World) (e : Ending) (w' : World) : Prop := ∃ t, e = .returned (.tuple #[.string t, .bool (Pl.isHost (bl s))]) ∧ Ext w w'
theorem Host_no {s : ByteArray} {w w' : World} (h : Pl.isHost (bl s) = false) (hb : Ext w w') : HostPost s w (.returned (.tuple #[.string ⟨#[]⟩, .bool false])) w' := ⟨_, by rw [h], hb⟩

set_option maxHeartbeats 4000000 in
set_option maxRecDepth 100000 in
theorem Host_any (s : ByteArray) (w : World) (hs : s.size ≤ 2147483647) :
    Calls Tryz.prog 41 #[.string s] w (HostPost s w) := by
  go_enter Tryz.func41, Tryz.ntmps41
  go_wp2_with fail
  refine (cut_any s 58 w (by omega)).mono ?_
  rintro e w1 ⟨sc, re, rfl, hA, hB, hAs, hBs, hb1⟩
  have HQ : Hid (Pl.isHost (bl s) = ((Pl.cutAt 58 (bl s)).2.2 && Pl.okLab (bl sc) && (Pl.small (bl sc) == bl sc) && ((bl re).take 2 == [47, 47]) && Pl.pathB ((bl re).drop 2) && Pl.hostB (Pl.cutAt 47 ((bl re).drop 2)).1)) := by
    unfold Hid Pl.isHost Pl.schB; rw [hA, hB]
  clear hA hB
  have HB1 := Lib.hid hb1; clear hb1
  go_wp2_with fail
  refine (Labels_any sc _ (by omega)).mono ?_
  rintro e w2 ⟨A, n, c, xs, rfl, hrd, hxs, hb2⟩
  have HB2 := Lib.hid (HB1.out.tr hb2); clear hb2
  have HX := Lib.hid hxs; clear hxs
  have HN := Lib.hid hrd; clear hrd
  cases hc : (Pl.cutAt 58 (bl s)).2.2 with
  | false =>
    have HF : Hid (Pl.isHost (bl s) = false) := by unfold Hid; rw [HQ.out, hc]; rfl
    clear hc
    go_wp2
    go_ret2
    exact Host_no HF.out HB2.out
  | true =>
  have HQ1 : Hid (Pl.isHost (bl s) = (Pl.okLab (bl sc) && (Pl.small (bl sc) == bl sc) && ((bl re).take 2 == [47, 47]) && Pl.pathB ((bl re).drop 2) && Pl.hostB (Pl.cutAt 47 ((bl re).drop 2)).1)) := by
    unfold Hid; rw [HQ.out, hc, Bool.true_and]
  cases hn : Pl.isName (bl sc) with
  | false =>
    have HF : Hid (Pl.isHost (bl s) = false) := by unfold Hid; rw [HQ1.out, Pl.isBox_eq, hn]; simp
    clear hc hn
    go_wp2
    go_ret2
    exact Host_no HF.out HB2.out
  | true =>
  have hlab : Pl.okLab (bl sc) = decide (n = 1) := by
    have h1 : (Pl.splitDot (bl sc)).length = n := by rw [← HX.out hn, List.length_map]; exact HN.out.1
    rw [Pl.isBox_eq, hn, h1]; rfl
  clear hc hn
  by_cases h1 : n = 1
  · have HL : Hid (Pl.okLab (bl sc) = true) := by unfold Hid; rw [hlab]; simpa using h1
    subst h1
    clear hlab
    go_wp2_with fail
    refine (small_any sc _ (by omega)).mono ?_
    rintro e w3 ⟨t, rfl, ht, hb3⟩
    have HB3 := Lib.hid (HB2.out.tr hb3); clear hb3
    cases hm : (Pl.small (bl sc) == bl sc) with
    | false =>
      have HF : Hid (Pl.isHost (bl s) = false) := by unfold Hid; rw [HQ1.out, hm]; simp
      have hq : (t.toList == sc.toList) = false := by rw [eq_str, ht]; exact hm
      clear hm ht
      go_wp2
      go_ret2
      exact Host_no HF.out HB3.out
    | true =>
    have hq : (t.toList == sc.toList) = true := by rw [eq_str, ht]; exact hm
    have HM := Lib.hid hm
    clear hm ht
    by_cases h2 : (re.size : Int) < 2
    · have HF : Hid (Pl.isHost (bl s) = false) := by
        unfold Hid
        rw [HQ1.out, show ((bl re).take 2 == [47, 47]) = false by
          rw [beq_eq_false_iff_ne]
          intro e
          have h3 := congrArg List.length e
          rw [List.length_take, bl_length] at h3
          simp at h3
          omega]
        simp
      go_wp2
      go_ret2
      exact Host_no HF.out HB3.out
    · cases hk : ((bl re).take 2 == [47, 47]) with
      | false =>
        have HF : Hid (Pl.isHost (bl s) = false) := by unfold Hid; rw [HQ1.out, hk]; simp
        have hq2 : ((re.extract 0 2).toList == [47, 47]) = false := by rw [toList_bl, bl_extract]; simpa using hk
        clear hk
        go_wp2
        go_ret2
        exact Host_no HF.out HB3.out
      | true =>
      have hq2 : ((re.extract 0 2).toList == [47, 47]) = true := by rw [toList_bl, bl_extract]; simpa using hk
      obtain ⟨r2, hr2⟩ : ∃ y, y = re.extract 2 re.size := ⟨_, rfl⟩
      have hz2 : r2.size ≤ 2147483647 := by rw [hr2, ByteArray.size_extract]; omega
      have e2 : bl r2 = (bl re).drop 2 := by
        rw [hr2, bl_extract, List.take_of_length_le (by rw [List.length_drop, bl_length]; omega)]
      have HQ2 : Hid (Pl.isHost (bl s) = (Pl.pathB (bl r2) && Pl.hostB (Pl.cutAt 47 (bl r2)).1)) := by
        unfold Hid
        rw [e2, HQ1.out, hk, HM.out, HL.out]
        rfl
      have HR2 := Lib.hid hr2
      clear hk e2 hr2
      go_wp2_with fail
      rw [← HR2.out]
      refine (cut_any r2 47 _ hz2).mono ?_
      rintro e w4 ⟨ho, pa, rfl, hA, hB, hAs, hBs, hb4⟩
      have HB4 := Lib.hid (HB3.out.tr hb4); clear hb4
      have HQ3 : Hid (Pl.isHost (bl s) = ((!(Pl.cutAt 47 (bl r2)).2.2 || (bl pa).isEmpty || Pl.isName (bl pa)) && Pl.hostB (bl ho))) := by
        unfold Hid; rw [HQ2.out, Pl.pathB, hA, hB]
      clear hA hB
      have HTAIL : Hid (∀ w', Calls Tryz.prog 45 #[.string ho, .int .u8 58] w' (CutPost ho 58 w')) := fun w' => cut_any ho 58 w' (by omega)
      have HTL : Hid (∀ (x : ByteArray) w', x.size ≤ s.size → Calls Tryz.prog 10 #[.string x] w' (LabelsPost x w')) := fun x w' hx => Labels_any x w' (by omega)
      have hsp : pa.size ≤ s.size := by
        have : r2.size ≤ re.size := by rw [HR2.out, ByteArray.size_extract]; omega
        omega
      have hsh : ho.size ≤ s.size := by
        have : r2.size ≤ re.size := by rw [HR2.out, ByteArray.size_extract]; omega
        omega
      have hcase : (Pl.cutAt 47 (bl r2)).2.2 = false ∨ ((Pl.cutAt 47 (bl r2)).2.2 = true ∧ (bl pa).isEmpty = true) ∨ ((Pl.cutAt 47 (bl r2)).2.2 = true ∧ (bl pa).isEmpty = false) := by
        cases (Pl.cutAt 47 (bl r2)).2.2 <;> cases (bl pa).isEmpty <;> simp
      rcases hcase with hc | ⟨hc, he⟩ | ⟨hc, he⟩
      · have HQ4 : Hid (Pl.isHost (bl s) = Pl.hostB (bl ho)) := by unfold Hid; rw [HQ3.out, hc]; rfl
        clear hAs hBs
        go_wp2_with fail
        clear hc
        refine (HTAIL.out _).mono ?_
        rintro e w6 ⟨na, po, rfl, hA, hB, hAs, hBs, hb6⟩
        have HB6 := Lib.hid (HB4.out.tr hb6); clear hb6
        have HQ6 : Hid (Pl.isHost (bl s) = ((!(Pl.cutAt 58 (bl ho)).2.2 || Pl.isNum (bl po) 65535) && Pl.isName (bl na))) := by
          unfold Hid; rw [HQ4.out, Pl.hostB, hA, hB]
        clear hA hB
        have hsn : na.size ≤ s.size := by omega
        have hso : po.size ≤ 2147483647 := by omega
        clear hAs hBs
        cases hc6 : (Pl.cutAt 58 (bl ho)).2.2 with
        | false =>
          have HQ7 : Hid (Pl.isHost (bl s) = Pl.isName (bl na)) := by unfold Hid; rw [HQ6.out, hc6]; rfl
          clear hc6
          go_wp2_with fail
          refine (HTL.out na _ hsn).mono ?_
          rintro e w7 ⟨A7, n7, c7, xs7, rfl, hrd7, hxs7, hb7⟩
          clear hrd7 hxs7
          go_wp2
          go_ret2
          exact ⟨na, by rw [HQ7.out]; rfl, HB6.out.tr hb7⟩
        | true =>
          have HQ7 : Hid (Pl.isHost (bl s) = (Pl.isNum (bl po) 65535 && Pl.isName (bl na))) := by unfold Hid; rw [HQ6.out, hc6]; rfl
          clear hc6
          go_wp2_with fail
          refine (number_any po 65535 _ hso (by omega)).mono ?_
          rintro e w7 ⟨rfl, hb7⟩
          cases hnu : Pl.isNum (bl po) 65535 with
          | false =>
            have HF : Hid (Pl.isHost (bl s) = false) := by unfold Hid; rw [HQ7.out, hnu]; rfl
            clear hnu
            go_wp2
            go_ret2
            exact Host_no HF.out (HB6.out.tr hb7)
          | true =>
            have HQ8 : Hid (Pl.isHost (bl s) = Pl.isName (bl na)) := by unfold Hid; rw [HQ7.out, hnu]; rfl
            clear hnu
            go_wp2_with fail
            refine (HTL.out na _ hsn).mono ?_
            rintro e w8 ⟨A8, n8, c8, xs8, rfl, hrd8, hxs8, hb8⟩
            clear hrd8 hxs8
            go_wp2
            go_ret2
            exact ⟨na, by rw [HQ8.out]; rfl, (HB6.out.tr hb7).tr hb8⟩
      · have HQ4 : Hid (Pl.isHost (bl s) = Pl.hostB (bl ho)) := by unfold Hid; rw [HQ3.out, hc, he]; rfl
        have h1 : pa.toList = [] := by rw [toList_bl]; simpa using he
        have h2 : pa.toList.isEmpty = true := by rw [toList_bl]; exact he
        clear hAs hBs he
        go_wp2_with fail
        clear hc
        refine (HTAIL.out _).mono ?_
        rintro e w6 ⟨na, po, rfl, hA, hB, hAs, hBs, hb6⟩
        have HB6 := Lib.hid (HB4.out.tr hb6); clear hb6
        have HQ6 : Hid (Pl.isHost (bl s) = ((!(Pl.cutAt 58 (bl ho)).2.2 || Pl.isNum (bl po) 65535) && Pl.isName (bl na))) := by
          unfold Hid; rw [HQ4.out, Pl.hostB, hA, hB]
        clear hA hB
        have hsn : na.size ≤ s.size := by omega
        have hso : po.size ≤ 2147483647 := by omega
        clear hAs hBs
        cases hc6 : (Pl.cutAt 58 (bl ho)).2.2 with
        | false =>
          have HQ7 : Hid (Pl.isHost (bl s) = Pl.isName (bl na)) := by unfold Hid; rw [HQ6.out, hc6]; rfl
          clear hc6
          go_wp2_with fail
          refine (HTL.out na _ hsn).mono ?_
          rintro e w7 ⟨A7, n7, c7, xs7, rfl, hrd7, hxs7, hb7⟩
          clear hrd7 hxs7
          go_wp2
          go_ret2
          exact ⟨na, by rw [HQ7.out]; rfl, HB6.out.tr hb7⟩
        | true =>
          have HQ7 : Hid (Pl.isHost (bl s) = (Pl.isNum (bl po) 65535 && Pl.isName (bl na))) := by unfold Hid; rw [HQ6.out, hc6]; rfl
          clear hc6
          go_wp2_with fail
          refine (number_any po 65535 _ hso (by omega)).mono ?_
          rintro e w7 ⟨rfl, hb7⟩
          cases hnu : Pl.isNum (bl po) 65535 with
          | false =>
            have HF : Hid (Pl.isHost (bl s) = false) := by unfold Hid; rw [HQ7.out, hnu]; rfl
            clear hnu
            go_wp2
            go_ret2
            exact Host_no HF.out (HB6.out.tr hb7)
          | true =>
            have HQ8 : Hid (Pl.isHost (bl s) = Pl.isName (bl na)) := by unfold Hid; rw [HQ7.out, hnu]; rfl
            clear hnu
            go_wp2_with fail
            refine (HTL.out na _ hsn).mono ?_
            rintro e w8 ⟨A8, n8, c8, xs8, rfl, hrd8, hxs8, hb8⟩
            clear hrd8 hxs8
            go_wp2
            go_ret2
            exact ⟨na, by rw [HQ8.out]; rfl, (HB6.out.tr hb7).tr hb8⟩
      · have h1 : ¬ pa.toList = [] := by rw [toList_bl]; simpa using he
        have h2 : pa.toList.isEmpty = false := by rw [toList_bl]; exact he
        have HQ5 : Hid (Pl.isHost (bl s) = (Pl.isName (bl pa) && Pl.hostB (bl ho))) := by unfold Hid; rw [HQ3.out, hc, he]; rfl
        clear hAs hBs he
        go_wp2_with fail
        clear hc
        refine (HTL.out pa _ hsp).mono ?_
        rintro e w5 ⟨A5, n5, c5, xs5, rfl, hrd5, hxs5, hb5⟩
        have HB5 := Lib.hid (HB4.out.tr hb5); clear hb5 hrd5 hxs5 HB4
        have HB4 := HB5
        clear HB5
        cases hn5 : Pl.isName (bl pa) with
        | false =>
          have HF : Hid (Pl.isHost (bl s) = false) := by unfold Hid; rw [HQ5.out, hn5]; rfl
          clear hn5
          go_wp2
          go_ret2
          exact Host_no HF.out HB4.out
        | true =>
          have HQ4 : Hid (Pl.isHost (bl s) = Pl.hostB (bl ho)) := by unfold Hid; rw [HQ5.out, hn5]; rfl
          clear hn5
          go_wp2_with fail
          refine (HTAIL.out _).mono ?_
          rintro e w6 ⟨na, po, rfl, hA, hB, hAs, hBs, hb6⟩
          have HB6 := Lib.hid (HB4.out.tr hb6); clear hb6
          have HQ6 : Hid (Pl.isHost (bl s) = ((!(Pl.cutAt 58 (bl ho)).2.2 || Pl.isNum (bl po) 65535) && Pl.isName (bl na))) := by
            unfold Hid; rw [HQ4.out, Pl.hostB, hA, hB]
          clear hA hB
          have hsn : na.size ≤ s.size := by omega
          have hso : po.size ≤ 2147483647 := by omega
          clear hAs hBs
          cases hc6 : (Pl.cutAt 58 (bl ho)).2.2 with
          | false =>
            have HQ7 : Hid (Pl.isHost (bl s) = Pl.isName (bl na)) := by unfold Hid; rw [HQ6.out, hc6]; rfl
            clear hc6
            go_wp2_with fail
            refine (HTL.out na _ hsn).mono ?_
            rintro e w7 ⟨A7, n7, c7, xs7, rfl, hrd7, hxs7, hb7⟩
            clear hrd7 hxs7
            go_wp2
            go_ret2
            exact ⟨na, by rw [HQ7.out]; rfl, HB6.out.tr hb7⟩
          | true =>
            have HQ7 : Hid (Pl.isHost (bl s) = (Pl.isNum (bl po) 65535 && Pl.isName (bl na))) := by unfold Hid; rw [HQ6.out, hc6]; rfl
            clear hc6
            go_wp2_with fail
            refine (number_any po 65535 _ hso (by omega)).mono ?_
            rintro e w7 ⟨rfl, hb7⟩
            cases hnu : Pl.isNum (bl po) 65535 with
            | false =>
              have HF : Hid (Pl.isHost (bl s) = false) := by unfold Hid; rw [HQ7.out, hnu]; rfl
              clear hnu
              go_wp2
              go_ret2
              exact Host_no HF.out (HB6.out.tr hb7)
            | true =>
              have HQ8 : Hid (Pl.isHost (bl s) = Pl.isName (bl na)) := by unfold Hid; rw [HQ7.out, hnu]; rfl
              clear hnu
              go_wp2_with fail
              refine (HTL.out na _ hsn).mono ?_
              rintro e w8 ⟨A8, n8, c8, xs8, rfl, hrd8, hxs8, hb8⟩
              clear hrd8 hxs8
              go_wp2
              go_ret2
              exact ⟨na, by rw [HQ8.out]; rfl, (HB6.out.tr hb7).tr hb8⟩
  · have HF : Hid (Pl.isHost (bl s) = false) := by unfold Hid; rw [HQ1.out, hlab, decide_eq_false h1]; simp
    have hne : ((n : Int) != 1) = true := by rw [bne_iff_ne]; omega
    clear hlab h1
    go_wp2
    go_ret2
    exact Host_no HF.out HB2.out

set_option maxHeartbeats 1000000 in
theorem IsMail_any (s : ByteArray) (w : World) (hs : s.size ≤ 2147483647) :
    Calls Tryz.prog 42 #[.string s] w (BoolPost (Pl.isMail (bl s)) w) := by
  go_enter Tryz.func42, Tryz.ntmps42
  go_wp2_with fail
  refine (cut_any s 64 w (by omega)).mono ?_
  rintro e w1 ⟨bx, ho, rfl, hA, hB, hAs, hBs, hb1⟩
  have HQ : Hid (Pl.isMail (bl s) = ((Pl.cutAt 64 (bl s)).2.2 && Pl.okLab (bl bx) && Pl.isName (bl ho))) := by unfold Hid Pl.isMail; rw [hA, hB]
  clear hA hB
  go_wp2_with fail
  refine (Labels_any ho _ (by omega)).mono ?_
  rintro e w2 ⟨A, n, c, xs, rfl, hrd, hxs, hb2⟩
  clear hrd hxs
  cases hc : (Pl.cutAt 64 (bl s)).2.2 with
  | false =>
    have HF : Hid (Pl.isMail (bl s) = false) := by unfold Hid; rw [HQ.out, hc]; rfl
    clear hc
    go_wp2
    go_ret
    exact ⟨ret_bool HF.out.symm, hb1.tr hb2⟩
  | true =>
    have HQ1 : Hid (Pl.isMail (bl s) = (Pl.okLab (bl bx) && Pl.isName (bl ho))) := by unfold Hid; rw [HQ.out, hc, Bool.true_and]
    clear hc
    go_wp2_with fail
    refine (isBox_any bx _ (by omega)).mono ?_
    rintro e w3 ⟨rfl, hb3⟩
    cases hk : Pl.okLab (bl bx) with
    | false =>
      have HF : Hid (Pl.isMail (bl s) = false) := by unfold Hid; rw [HQ1.out, hk]; rfl
      clear hk
      go_wp2
      go_ret
      exact ⟨ret_bool HF.out.symm, (hb1.tr hb2).tr hb3⟩
    | true =>
      have HF : Hid (Pl.isMail (bl s) = Pl.isName (bl ho)) := by unfold Hid; rw [HQ1.out, hk, Bool.true_and]
      clear hk
      go_wp2
      go_ret
      exact ⟨ret_bool HF.out.symm, (hb1.tr hb2).tr hb3⟩
theorem areName_any (s : ByteArray) (w : World) (hs : s.size ≤ 2147483647) :
    Calls Tryz.prog 39 #[.string s] w (BoolPost (Pl.isName (bl s)) w) := by
  go_enter Tryz.func39, Tryz.ntmps39
  go_wp2_with fail
  refine (Labels_any _ _ (by omega)).mono ?_
  rintro e w1 ⟨A, n, c, xs, rfl, hrd, hxs, hb⟩
  clear hrd hxs
  go_wp2
  go_ret
  exact ⟨rfl, hb⟩
theorem areURI_any (s : ByteArray) (w : World) (hs : s.size ≤ 2147483647) :
    Calls Tryz.prog 40 #[.string s] w (BoolPost (Pl.isHost (bl s)) w) := by
  go_enter Tryz.func40, Tryz.ntmps40
  go_wp2_with fail
  refine (Host_any _ _ (by omega)).mono ?_
  rintro e w1 ⟨t, rfl, hb⟩
  go_wp2
  go_ret
  exact ⟨rfl, hb⟩
end Go.Proofs.YtnefafkdfcmmfaaGreatDoor
end
