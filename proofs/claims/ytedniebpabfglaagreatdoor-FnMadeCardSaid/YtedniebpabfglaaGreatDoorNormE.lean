/- The walk of the normalizer of constraints of mails. -/
import Derived.Test.YtedniebpabfglaaGreatDoorMbox
namespace Go.Proofs.YtedniebpabfglaaGreatDoor.Pl

/-- What a constraint of mails becomes. -/
def normE (c : Str) : Str := match c with
  | 64 :: r => r
  | l => l
theorem small_fix {l : Str} (h : small l = l) : ∀ x ∈ l, low x = x := by
  induction l with
  | nil => intro x hx; cases hx
  | cons c r ih =>
    unfold small at h ih
    rw [List.map_cons] at h
    injection h with h1 h2
    intro x hx
    rcases List.mem_cons.1 hx with rfl | hx
    · exact h1
    · exact ih h2 x hx
theorem small_of {l : Str} (h : ∀ x ∈ l, low x = x) : small l = l := by
  induction l with
  | nil => rfl
  | cons c r ih =>
    unfold small at ih ⊢
    rw [List.map_cons, h c (by simp), ih (fun x hx => h x (by simp [hx]))]
theorem splitDot_pre (l r : Str) (h : ∀ x ∈ l, x ≠ 46) : ∃ a t, splitDot r = a :: t ∧ splitDot (l ++ r) = (l ++ a) :: t := by
  induction l with
  | nil =>
    cases hs : splitDot r with
    | nil => exact absurd hs (splitDot_ne r)
    | cons a t => exact ⟨a, t, rfl, hs⟩
  | cons c l ih =>
    obtain ⟨a, t, h1, h2⟩ := ih (fun x hx => h x (by simp [hx]))
    refine ⟨a, t, h1, ?_⟩
    rw [List.cons_append, splitDot, if_neg (h c (by simp)), h2]
    rfl
theorem mailbox_cases {l : Str} (h : isMailbox l = true) : small l = l ∧
    ((isName l = true ∧ normE l = l) ∨ (∃ r, l = 64 :: r ∧ isName r = true ∧ normE l = r) ∨ ∃ b r, l = b ++ 64 :: r ∧ okLab b = true ∧ isName r = true ∧ normE l = l) := by
  unfold isMailbox hostOf boxOf at h
  simp only [Bool.and_eq_true, beq_iff_eq] at h
  obtain ⟨⟨h1, h2⟩, h3⟩ := h
  refine ⟨h3, ?_⟩
  cases hc : (cutAt 64 l).2.2 with
  | false =>
    rw [hc] at h1
    obtain ⟨_, hn⟩ := cutAt_false 64 l hc
    refine .inl ⟨by simpa using h1, ?_⟩
    cases l with
    | nil => rfl
    | cons c r =>
      unfold normE
      split
      · rename_i e; injection e with e1 e2; exact absurd e1 (hn c (by simp))
      · rfl
  | true =>
    rw [hc, if_pos rfl] at h1 h2
    obtain ⟨he, hn⟩ := cutAt_true 64 l hc
    cases hb : (cutAt 64 l).1 with
    | nil =>
      rw [hb] at he
      refine .inr (.inl ⟨_, he, h1, ?_⟩)
      conv => lhs; rw [he]
      rfl
    | cons c b =>
      rw [hb] at h2 he hn
      refine .inr (.inr ⟨c :: b, _, he, by simpa using h2, h1, ?_⟩)
      unfold normE
      split
      · rw [List.cons_append] at he; injection he with e1 e2; exact absurd e1.symm (hn c (by simp))
      · rfl
end Go.Proofs.YtedniebpabfglaaGreatDoor.Pl
namespace Go.Proofs.YtedniebpabfglaaGreatDoor
open Go.RowKit

theorem bl_add (a b : ByteArray) : bl (a ++ b) = bl a ++ bl b := by
  simp [bl, ByteArray.data_append]
theorem head_byte {s : ByteArray} {c : UInt8} {r : List UInt8} (h : bl s = c :: r) (h0 : 0 < s.size) : s[0]'h0 = c := by
  have e1 := bl_get s 0 h0
  rw [← e1]
  simp only [h]
  rfl
theorem name_head_ne {s : ByteArray} (hn : Pl.isName (bl s) = true) : ∃ h0 : 0 < s.size, (((s[0]'h0).toNat : Int) == 64) = false ∧ (((s[0]'h0).toNat : Int) == 46) = false := by
  obtain ⟨c, r, hcr, hcl⟩ := Pl.name_head hn
  have h0 : 0 < s.size := size_pos (by rw [hcr]; simp)
  refine ⟨h0, ?_⟩
  rw [head_byte hcr h0]
  have := ld_class c (by simp [Pl.isLD, hcl])
  rw [beq_eq_false_iff_ne, beq_eq_false_iff_ne]
  omega

set_option maxHeartbeats 4000000 in
set_option maxRecDepth 100000 in
theorem NormE_name (s : ByteArray) (w : World) (ht : SpTab w) (hn : Pl.isName (bl s) = true) (hsm : Pl.small (bl s) = bl s) :
    Calls Tryz.prog 49 #[.string s] w (NormPost (bl s) w) := by
  have hs : s.size ≤ 60 := by rw [← bl_length]; have := Pl.name_len hn; omega
  have HV : Hid (vis (bl s)) := fun x hx => by have := Pl.nc_range x (Pl.isName_mem hn x hx); exact ⟨this.1, this.2.1⟩
  have HT : Hid (mk (Pl.small (bl s)) = s) := by unfold Hid; rw [hsm, mk_bl]
  have HBK := HT
  have hno : ∀ x ∈ bl s, x ≠ 64 := fun x hx => (Pl.nc_range x (Pl.isName_mem hn x hx)).2.2.2
  have HC : Hid ((((bl s).count 64 : Nat) : Int) ≤ 1) := by
    unfold Hid
    rw [List.count_eq_zero.2 (fun h => hno 64 h rfl)]; decide
  have H64 : Hid (Pl.has (bl s) [64] = false) := Pl.has_no 64 (by simp) (fun h => hno 64 h rfl)
  have H42 : Hid (Pl.has (bl s) [42] = false) := Pl.has_no 42 (by simp) (fun h => (Pl.nc_range 42 (Pl.isName_mem hn 42 h)).2.2.1 rfl)
  obtain ⟨hpos, hc64, hc46⟩ := name_head_ne hn
  obtain ⟨hne1, hne2⟩ := nonempty_list (s := s) (Pl.name_ne hn)
  have HN := Lib.hid hn
  have HSP := Lib.hid ht
  clear hn hsm hno ht
  have HRV : Hid (∀ w', Calls Tryz.prog 69 #[.string s] w' (RevPost s w')) := fun w' => by
    refine Rev_any s w' (by omega) ?_ ?_ ?_
    · rw [Pl.name_labs HN.out]; exact Pl.splitDot_ne _
    · rw [Pl.name_labs HN.out]; exact fun l hl => Pl.okLab_nil (Pl.name_all HN.out l hl)
    · exact fun x hx => by have := Pl.nc_range x (Pl.isName_mem HN.out x hx); exact ⟨this.1, this.2.1⟩
  go_enter Tryz.func49, Tryz.ntmps49
  go_wp2_with fail
  refine (Trim_any s w (by omega) HV.out HSP.out).mono ?_
  rintro e w1 ⟨rfl, hb1⟩
  go_wp2_with fail
  refine (Lower_any s w1 (by omega) HV.out).mono ?_
  rintro e w2 ⟨rfl, hb2⟩
  rw [HT.out]
  go_wp2_with fail
  refine (zzContains_any s ⟨#[42]⟩ w2 (by omega) (by decide)).mono ?_
  rintro e w3 ⟨rfl, hb3⟩
  rw [show Pl.has (bl s) (bl ⟨#[42]⟩) = false from H42.out]
  go_wp2_with fail
  refine (zzCount_any s ⟨#[64]⟩ 64 _ (by omega) rfl rfl).mono ?_
  rintro e w4 ⟨rfl, hb4⟩
  have hle : (((bl s).count 64 : Nat) : Int) ≤ 1 := HC.out
  generalize (bl s).count 64 = cn at hle ⊢
  have HX4 := Lib.hid (((hb1.tr hb2).tr hb3).tr hb4)
  clear hb1 hb2 hb3 hb4
  go_wp2_with fail
  refine (zzContains_any s ⟨#[64]⟩ _ (by omega) (by decide)).mono ?_
  rintro e w5 ⟨rfl, hb5⟩
  rw [show Pl.has (bl s) (bl ⟨#[64]⟩) = false from H64.out]
  have HX5 := Lib.hid (HX4.out.tr hb5); clear hb5
  go_wp2_with fail
  refine (zzLookup_any s _ (by omega) hpos (fun x hx => Pl.isName_mem HN.out x hx)).mono ?_
  rintro e w7 ⟨rfl, hb7⟩
  rw [HBK.out]
  go_wp2_with fail
  refine (HRV.out w7).mono ?_
  rintro e w8 ⟨A, n, cc, xs, rfl, hrd, hxs, hsz, hb8⟩
  clear hrd hxs hsz
  go_wp2
  go_ret2
  exact ⟨ret_tup2 (congrArg Value.string (mk_bl s).symm) rfl, (HX5.out.tr hb7).tr hb8⟩

set_option maxHeartbeats 4000000 in
set_option maxRecDepth 100000 in
theorem NormE_host (s ho : ByteArray) (w : World) (ht : SpTab w) (hb : bl s = 64 :: bl ho) (hn : Pl.isName (bl ho) = true) (hsm : Pl.small (bl s) = bl s) :
    Calls Tryz.prog 49 #[.string s] w (NormPost (bl ho) w) := by
  have hhl : ho.size ≤ 43 := by rw [← bl_length]; exact Pl.name_len hn
  have hs : s.size ≤ 60 := by rw [← bl_length, hb, List.length_cons, bl_length]; omega
  have HV : Hid (vis (bl s)) := fun x hx => by
    rw [hb] at hx
    rcases List.mem_cons.1 hx with rfl | hx
    · decide
    · have := Pl.nc_range x (Pl.isName_mem hn x hx); exact ⟨this.1, this.2.1⟩
  have HT : Hid (mk (Pl.small (bl s)) = s) := by unfold Hid; rw [hsm, mk_bl]
  have HBK : Hid (mk (Pl.small (bl ho)) = ho) := by
    unfold Hid
    rw [Pl.small_of (fun x hx => Pl.small_fix hsm x (by rw [hb]; simp [hx])), mk_bl]
  have hno : ∀ x ∈ bl ho, x ≠ 64 := fun x hx => (Pl.nc_range x (Pl.isName_mem hn x hx)).2.2.2
  have HC : Hid ((((bl s).count 64 : Nat) : Int) ≤ 1) := by
    unfold Hid
    rw [hb, List.count_cons_self, List.count_eq_zero.2 (fun h => hno 64 h rfl)]; decide
  have H64 : Hid (Pl.has (bl ho) [64] = false) := Pl.has_no 64 (by simp) (fun h => hno 64 h rfl)
  have H42 : Hid (Pl.has (bl s) [42] = false) := Pl.has_no 42 (by simp) (fun h => by
    rw [hb] at h
    rcases List.mem_cons.1 h with h | h
    · cases h
    · exact (Pl.nc_range 42 (Pl.isName_mem hn 42 h)).2.2.1 rfl)
  obtain ⟨hpos, hho64, hho46⟩ := name_head_ne hn
  have hpos0 : 0 < s.size := size_pos (by rw [hb]; simp)
  have hc64 : (((s[0]'hpos0).toNat : Int) == 64) = true := by rw [head_byte hb hpos0]; rfl
  have HCUT : Hid (s.extract 1 s.size = ho) := by
    unfold Hid
    rw [← mk_bl (s.extract 1 s.size), bl_extract, hb]
    simp only [List.drop_succ_cons, List.drop_zero]
    rw [List.take_of_length_le (by have := bl_length s; rw [hb, List.length_cons] at this; omega), mk_bl]
  obtain ⟨hne1, hne2⟩ := nonempty_list (s := s) (by rw [hb]; simp)
  have HN := Lib.hid hn
  have HSP := Lib.hid ht
  clear hn hsm hno ht hb
  have HRV : Hid (∀ w', Calls Tryz.prog 69 #[.string ho] w' (RevPost ho w')) := fun w' => by
    refine Rev_any ho w' (by omega) ?_ ?_ ?_
    · rw [Pl.name_labs HN.out]; exact Pl.splitDot_ne _
    · rw [Pl.name_labs HN.out]; exact fun l hl => Pl.okLab_nil (Pl.name_all HN.out l hl)
    · exact fun x hx => by have := Pl.nc_range x (Pl.isName_mem HN.out x hx); exact ⟨this.1, this.2.1⟩
  go_enter Tryz.func49, Tryz.ntmps49
  go_wp2_with fail
  refine (Trim_any s w (by omega) HV.out HSP.out).mono ?_
  rintro e w1 ⟨rfl, hb1⟩
  go_wp2_with fail
  refine (Lower_any s w1 (by omega) HV.out).mono ?_
  rintro e w2 ⟨rfl, hb2⟩
  rw [HT.out]
  go_wp2_with fail
  refine (zzContains_any s ⟨#[42]⟩ w2 (by omega) (by decide)).mono ?_
  rintro e w3 ⟨rfl, hb3⟩
  rw [show Pl.has (bl s) (bl ⟨#[42]⟩) = false from H42.out]
  go_wp2_with fail
  refine (zzCount_any s ⟨#[64]⟩ 64 _ (by omega) rfl rfl).mono ?_
  rintro e w4 ⟨rfl, hb4⟩
  have hle : (((bl s).count 64 : Nat) : Int) ≤ 1 := HC.out
  generalize (bl s).count 64 = cn at hle ⊢
  have HX4 := Lib.hid (((hb1.tr hb2).tr hb3).tr hb4)
  clear hb1 hb2 hb3 hb4
  go_upto_region 10 with fail
  rw [HCUT.out]
  go_wp2_with fail
  refine (zzContains_any ho ⟨#[64]⟩ _ (by omega) (by decide)).mono ?_
  rintro e w5 ⟨rfl, hb5⟩
  rw [show Pl.has (bl ho) (bl ⟨#[64]⟩) = false from H64.out]
  have HX5 := Lib.hid (HX4.out.tr hb5); clear hb5
  go_wp2_with fail
  refine (zzLookup_any ho _ (by omega) hpos (fun x hx => Pl.isName_mem HN.out x hx)).mono ?_
  rintro e w7 ⟨rfl, hb7⟩
  rw [HBK.out]
  go_wp2_with fail
  refine (HRV.out w7).mono ?_
  rintro e w8 ⟨A, n, cc, xs, rfl, hrd, hxs, hsz, hb8⟩
  clear hrd hxs hsz
  go_wp2
  go_ret2
  exact ⟨ret_tup2 (congrArg Value.string (mk_bl ho).symm) rfl, (HX5.out.tr hb7).tr hb8⟩

set_option maxHeartbeats 4000000 in
set_option maxRecDepth 100000 in
theorem NormE_box (s bx ho : ByteArray) (w : World) (ht : SpTab w) (hb : bl s = bl bx ++ 64 :: bl ho) (hx : Pl.okLab (bl bx) = true) (hn : Pl.isName (bl ho) = true) (hsm : Pl.small (bl s) = bl s) :
    Calls Tryz.prog 49 #[.string s] w (NormPost (bl s) w) := by
  have hhl : ho.size ≤ 43 := by rw [← bl_length]; exact Pl.name_len hn
  have hbl : bx.size ≤ 10 := by rw [← bl_length]; exact Pl.okLab_len hx
  have hs : s.size ≤ 60 := by rw [← bl_length, hb, List.length_append, List.length_cons, bl_length, bl_length]; omega
  have hmem : ∀ x ∈ bl s, Pl.isNC x = true ∨ x = 64 := fun x h => by
    rw [hb] at h
    rcases List.mem_append.1 h with h | h
    · exact .inl (Pl.ld_nc x (Pl.okLab_all hx x h))
    · rcases List.mem_cons.1 h with h | h
      · exact .inr h
      · exact .inl (Pl.isName_mem hn x h)
  have HV : Hid (vis (bl s)) := fun x h => by
    rcases hmem x h with h | rfl
    · have := Pl.nc_range x h; exact ⟨this.1, this.2.1⟩
    · decide
  have HT : Hid (mk (Pl.small (bl s)) = s) := by unfold Hid; rw [hsm, mk_bl]
  have HBK : Hid (mk (Pl.small (bl ho)) = ho) := by
    unfold Hid
    rw [Pl.small_of (fun x h => Pl.small_fix hsm x (by rw [hb]; simp [h])), mk_bl]
  have hno : ∀ x ∈ bl ho, x ≠ 64 := fun x hx => (Pl.nc_range x (Pl.isName_mem hn x hx)).2.2.2
  have hnb : ∀ x ∈ bl bx, x ≠ 64 := fun x h => (Pl.nc_range x (Pl.ld_nc x (Pl.okLab_all hx x h))).2.2.2
  have hnd : ∀ x ∈ bl bx ++ [64], x ≠ 46 := fun x h => by
    rcases List.mem_append.1 h with h | h
    · rintro rfl
      have := Pl.okLab_all hx 46 h
      revert this; decide
    · rw [List.mem_singleton.1 h]; decide
  have HC : Hid ((((bl s).count 64 : Nat) : Int) ≤ 1) := by
    unfold Hid
    rw [hb, List.count_append, List.count_cons_self, List.count_eq_zero.2 (fun h => hno 64 h rfl), List.count_eq_zero.2 (fun h => hnb 64 h rfl)]; decide
  have H64 : Hid (Pl.has (bl s) [64] = true) := Pl.has_one (by rw [hb]; simp)
  have H42 : Hid (Pl.has (bl s) [42] = false) := Pl.has_no 42 (by simp) (fun h => by
    rcases hmem 42 h with h | h
    · exact (Pl.nc_range 42 h).2.2.1 rfl
    · cases h)
  obtain ⟨hpos, _, _⟩ := name_head_ne hn
  have hb0 : bl bx ≠ [] := Pl.okLab_nil hx
  obtain ⟨c, r, hcr⟩ : ∃ c r, bl bx = c :: r := by
    cases h : bl bx with
    | nil => exact absurd h hb0
    | cons c r => exact ⟨c, r, rfl⟩
  have hpos0 : 0 < s.size := size_pos (by rw [hb]; simp)
  have hhd : s[0]'hpos0 = c := head_byte (r := r ++ 64 :: bl ho) (by rw [hb, hcr]; rfl) hpos0
  have hcl := ld_class c (Pl.okLab_all hx c (by rw [hcr]; simp))
  have hc64 : (((s[0]'hpos0).toNat : Int) == 64) = false := by rw [hhd, beq_eq_false_iff_ne]; omega
  have hc46 : (((s[0]'hpos0).toNat : Int) == 46) = false := by rw [hhd, beq_eq_false_iff_ne]; omega
  clear hhd hcl hcr
  obtain ⟨hne1, hne2⟩ := nonempty_list (s := s) (by rw [hb]; simp)
  have HSX : Hid (bx ++ ⟨#[64]⟩ ++ ho = s) := by
    unfold Hid
    rw [← mk_bl (bx ++ ⟨#[64]⟩ ++ ho), bl_add, bl_add, ← mk_bl s, hb]
    simp [bl]
  have HRV : Hid (∀ w', Calls Tryz.prog 69 #[.string s] w' (RevPost s w')) := fun w' => by
    obtain ⟨a, t, h1, h2⟩ := Pl.splitDot_pre (bl bx ++ [64]) (bl ho) hnd
    have hsp : Pl.splitDot (bl s) = ((bl bx ++ [64]) ++ a) :: t := by rw [hb, ← h2]; simp
    have hlb : Pl.labs (bl s) = ((bl bx ++ [64]) ++ a) :: t := by
      unfold Pl.labs
      rw [hsp]
      split
      · rename_i e; injection e with e1 e2; simp at e1
      · rfl
    refine Rev_any s w' (by omega) ?_ ?_ HV.out
    · rw [hlb]; simp
    · rw [hlb]
      intro l hl
      rcases List.mem_cons.1 hl with rfl | hl
      · simp
      · exact Pl.okLab_nil (Pl.name_all hn l (by rw [h1]; simp [hl]))
  have HMB : Hid (∀ w', Calls Tryz.prog 80 #[.string s] w' (fun e w'' => e = .returned (.tuple #[.agg #[.string bx, .string ho], .bool true]) ∧ Ext w' w'')) := fun w' => Mbox_any s bx ho w' hb hx hn
  have HN := Lib.hid hn
  have HSP := Lib.hid ht
  clear hn hsm hno hnb hnd hmem ht hb hx hb0
  go_enter Tryz.func49, Tryz.ntmps49
  go_wp2_with fail
  refine (Trim_any s w (by omega) HV.out HSP.out).mono ?_
  rintro e w1 ⟨rfl, hb1⟩
  go_wp2_with fail
  refine (Lower_any s w1 (by omega) HV.out).mono ?_
  rintro e w2 ⟨rfl, hb2⟩
  rw [HT.out]
  go_wp2_with fail
  refine (zzContains_any s ⟨#[42]⟩ w2 (by omega) (by decide)).mono ?_
  rintro e w3 ⟨rfl, hb3⟩
  rw [show Pl.has (bl s) (bl ⟨#[42]⟩) = false from H42.out]
  go_wp2_with fail
  refine (zzCount_any s ⟨#[64]⟩ 64 _ (by omega) rfl rfl).mono ?_
  rintro e w4 ⟨rfl, hb4⟩
  have hle : (((bl s).count 64 : Nat) : Int) ≤ 1 := HC.out
  generalize (bl s).count 64 = cn at hle ⊢
  have HX4 := Lib.hid (((hb1.tr hb2).tr hb3).tr hb4)
  clear hb1 hb2 hb3 hb4
  go_wp2_with fail
  refine (zzContains_any s ⟨#[64]⟩ _ (by omega) (by decide)).mono ?_
  rintro e w5 ⟨rfl, hb5⟩
  rw [show Pl.has (bl s) (bl ⟨#[64]⟩) = true from H64.out]
  have HX5 := Lib.hid (HX4.out.tr hb5); clear hb5
  go_wp2_with fail
  refine (HMB.out _).mono ?_
  rintro e w6 ⟨rfl, hb6⟩
  have HX6 := Lib.hid ((HX5.out.tr hb6).alloc (.cells #[.string bx, .string ho] 96)); clear hb6
  have HB6 : Hid (Blk (w6.alloc (.cells #[.string bx, .string ho] 96)) w6.heap.size 96 #[.string bx, .string ho]) := Blk.new _ _ _
  go_wp2_with fail
  refine (zzLookup_any ho _ (by omega) hpos (fun x hx => Pl.isName_mem HN.out x hx)).mono ?_
  rintro e w7 ⟨rfl, hb7⟩
  rw [HBK.out]
  have q0 := (HB6.out.ext hb7).cell 0
  go_wp2_with fail
  rw [HSX.out]
  refine (HRV.out w7).mono ?_
  rintro e w8 ⟨A, n, cc, xs, rfl, hrd, hxs, hsz, hb8⟩
  clear hrd hxs hsz
  go_wp2
  go_ret2
  exact ⟨ret_tup2 (congrArg Value.string (mk_bl s).symm) rfl, (HX6.out.tr hb7).tr hb8⟩

theorem NormE_any (s : ByteArray) (w : World) (ht : SpTab w) (hm : Pl.isMailbox (bl s) = true) :
    Calls Tryz.prog 49 #[.string s] w (NormPost (Pl.normE (bl s)) w) := by
  obtain ⟨hsm, ⟨hn, he⟩ | ⟨r, hb, hn, he⟩ | ⟨b, r, hb, hx, hn, he⟩⟩ := Pl.mailbox_cases hm
  · rw [he]; exact NormE_name s w ht hn hsm
  · rw [he, ← bl_mk r]; exact NormE_host s (mk r) w ht (by rw [bl_mk]; exact hb) (by rw [bl_mk]; exact hn) hsm
  · rw [he]; exact NormE_box s (mk b) (mk r) w ht (by rw [bl_mk, bl_mk]; exact hb) (by rw [bl_mk]; exact hx) (by rw [bl_mk]; exact hn) hsm

end Go.Proofs.YtedniebpabfglaaGreatDoor
