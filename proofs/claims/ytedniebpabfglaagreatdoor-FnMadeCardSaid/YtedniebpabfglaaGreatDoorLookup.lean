/- The walk of zzLookup at texts of letters, digits and dots: the text with small letters comes back. -/
import Derived.Test.YtedniebpabfglaaGreatDoorZz
namespace Go.Proofs.YtedniebpabfglaaGreatDoor
open Go.RowKit

theorem info_u8 : (Tryz.prog.info? 5).map (fun i => (i.zero, i.size, i.bytes)) = some (some (.int .u8 0), 1, 1) := by kernel_rfl
/-- Bytes as cells. -/
def bys (l : List UInt8) : List Value := l.map fun c => .int .u8 (c.toNat : Int)
theorem bys_length (l : List UInt8) : (bys l).length = l.length := by simp [bys]
theorem bys_snoc (l : List UInt8) (c : UInt8) : bys (l ++ [c]) = bys l ++ [.int .u8 (c.toNat : Int)] := by simp [bys]
theorem bys_get (l : List UInt8) (j : Nat) (h : j < l.length) : (bys l)[j]? = some (.int .u8 (l[j].toNat : Int)) := by simp [bys, List.getElem?_eq_getElem h]
/-- The byte at a place. -/
def fb (l : List UInt8) (j : Nat) : Int := ((l.getD j 0).toNat : Int)
theorem fb_at (l : List UInt8) (j : Nat) (h : j < l.length) : fb l j = (l[j].toNat : Int) := by unfold fb; rw [List.getD_eq_getElem?_getD, List.getElem?_eq_getElem h]; rfl
theorem add_at (g j : Nat) : (⟨g, 0, none⟩ : Addr).add j = ⟨g, j, none⟩ := by unfold Addr.add; split <;> simp_all
theorem own_bytes {w : World} {base n g cap : Nat} {e : TypeId} {l : List UInt8} (h : w.ownsRow base e 1 (.slice (some ⟨g, 0, none⟩) n cap) n (bys l)) : ∀ j, j < n → w.cell? ⟨g, j, none⟩ = some (.int .u8 (fb l j)) := by
  intro j hj
  have hl : l.length = n := by have := h.1; rw [bys_length] at this; omega
  have h2 := h.cells (g := g) rfl j _ (bys_get l j (by omega))
  rw [add_at] at h2
  rw [h2, fb_at]
theorem strOfNums_mk (l : List UInt8) : strOfNums (l.map fun c => (c.toNat : Int)) = mk l := by
  unfold strOfNums mk
  simp [List.map_map, Function.comp_def]
def LookPost (s : ByteArray) (w : World) (e : Ending) (w' : World) : Prop :=
  e = .returned (.tuple #[.string (mk (Pl.small (bl s))), .nilIface]) ∧ Ext w w'
theorem nc_class (c : UInt8) (h : Pl.isNC c = true) : (65 ≤ (c.toNat : Int) ∧ (c.toNat : Int) ≤ 90) ∨ (97 ≤ (c.toNat : Int) ∧ (c.toNat : Int) ≤ 122) ∨ (48 ≤ (c.toNat : Int) ∧ (c.toNat : Int) ≤ 57) ∨ (c.toNat : Int) = 46 := by
  unfold Pl.isNC Pl.isLD Pl.isLet Pl.isDig at h
  simp only [Bool.or_eq_true, Bool.and_eq_true, decide_eq_true_eq, beq_iff_eq] at h
  rcases h with ((⟨h1, h2⟩ | ⟨h1, h2⟩) | ⟨h1, h2⟩) | rfl
  · exact .inr (.inl (by omega))
  · exact .inl (by omega)
  · exact .inr (.inr (.inl (by omega)))
  · exact .inr (.inr (.inr (by rfl)))
theorem low_nc (c : UInt8) (h : Pl.isNC c = true) : ((Pl.low c).toNat : Int) ≠ 45 := by
  rcases nc_class c h with h1 | h1 | h1 | h1
  · rw [low_up c h1]; omega
  all_goals (rw [low_same c (by omega)]; omega)
theorem small_take_succ (l : List UInt8) (k : Nat) (h : k < l.length) : Pl.small (l.take (k + 1)) = Pl.small (l.take k) ++ [Pl.low l[k]] := by
  unfold Pl.small
  rw [List.take_succ_eq_append_getElem h, List.map_append]; rfl

set_option maxHeartbeats 4000000 in
set_option maxRecDepth 100000 in
theorem zzLookup_any (s : ByteArray) (w : World) (hs : s.size ≤ 2147483647) (h0 : 0 < s.size) (hv : ∀ x ∈ bl s, Pl.isNC x = true) :
    Calls Tryz.prog 68 #[.string s] w (LookPost s w) := by
  have HV := Lib.hid hv; clear hv
  obtain ⟨i0, hi, hz0, hz1, hz2⟩ := info_parts info_u8
  go_enter Tryz.func68, Tryz.ntmps68
  go_wp2
  go_loopw [4, 5, 6] (fun v i _ wr => ∃ k : Nat, i = .int .i64 k ∧ k ≤ s.size ∧ wr.ownsRow w.heap.size 5 1 v k (bys (Pl.small ((bl s).take k))) ∧ Ext w wr) (fun _ i _ _ => s.size - (intOf i).toNat)
  case atStart => exact ⟨0, rfl, by omega, ⟨rfl, .inl ⟨rfl, rfl⟩⟩, Ext.refl w⟩
  case round =>
    obtain ⟨k, rfl, hk, hown, hb⟩ := hrel
    by_cases hlt : k < s.size
    · have hkl : k < (bl s).length := by rw [bl_length]; exact hlt
      have HG : Hid ((bl s)[k] = s[k]) := bl_get s k hlt
      have hcl := nc_class s[k] (by have e : (bl s)[k] = s[k] := HG.out; rw [← e]; exact HV.out _ (List.getElem_mem hkl))
      have HN : Hid (bys (Pl.small ((bl s).take (k + 1))) = bys (Pl.small ((bl s).take k)) ++ [.int .u8 ((Pl.low s[k]).toNat : Int)]) := by
        unfold Hid
        have e : (bl s)[k] = s[k] := HG.out
        rw [small_take_succ _ _ hkl, bys_snoc, e]
      have hdash : ((s[k].toNat : Int) == 45) = false := by rw [beq_eq_false_iff_ne]; omega
      rcases hcl with hc | hc | hc | hc
      · have HL := Lib.hid (low_up s[k] hc)
        obtain ⟨hc0, hc1⟩ := hc
        go_wp2_with (at_builtin; refine wpList_append_own _ rfl (.tmp 47) (.tmp 49) 53 rfl w.heap.size 5 i0 (.int .u8 0) 1 1 Tryz.underlying53 hi hz0 hz1 hz2 rfl (by decide) _ _ _ rfl (hown.alloc _) ⟨wr.heap.size, 0, none⟩ 1 1 [.int .u8 ((s[k].toNat : Int) + 32)] rfl rfl (one_new _ _ _) (by intro u hu; simp at hu; subst hu; rfl) (by unfold maxLen; omega) (by omega) (by have := hb.size; simp; omega) ?_; intro v' w1 hown' hgrow _)
        go_roundw
        case rel => exact ⟨k + 1, by go_num, by omega, by rw [HN.out, HL.out]; exact hown', (hb.alloc _).grown hgrow (by have := hb.size; simp; omega) (own_lo hown)⟩
        case measure => simp [intOf]; omega
      · have HL := Lib.hid (low_same s[k] (by omega))
        obtain ⟨hc0, hc1⟩ := hc
        go_wp2_with (at_builtin; refine wpList_append_own _ rfl (.tmp 47) (.tmp 49) 53 rfl w.heap.size 5 i0 (.int .u8 0) 1 1 Tryz.underlying53 hi hz0 hz1 hz2 rfl (by decide) _ _ _ rfl (hown.alloc _) ⟨wr.heap.size, 0, none⟩ 1 1 [.int .u8 (s[k].toNat : Int)] rfl rfl (one_new _ _ _) (by intro u hu; simp at hu; subst hu; rfl) (by unfold maxLen; omega) (by omega) (by have := hb.size; simp; omega) ?_; intro v' w1 hown' hgrow _)
        go_roundw
        case rel => exact ⟨k + 1, by go_num, by omega, by rw [HN.out, HL.out]; exact hown', (hb.alloc _).grown hgrow (by have := hb.size; simp; omega) (own_lo hown)⟩
        case measure => simp [intOf]; omega
      · have HL := Lib.hid (low_same s[k] (by omega))
        obtain ⟨hc0, hc1⟩ := hc
        go_wp2_with (at_builtin; refine wpList_append_own _ rfl (.tmp 47) (.tmp 49) 53 rfl w.heap.size 5 i0 (.int .u8 0) 1 1 Tryz.underlying53 hi hz0 hz1 hz2 rfl (by decide) _ _ _ rfl (hown.alloc _) ⟨wr.heap.size, 0, none⟩ 1 1 [.int .u8 (s[k].toNat : Int)] rfl rfl (one_new _ _ _) (by intro u hu; simp at hu; subst hu; rfl) (by unfold maxLen; omega) (by omega) (by have := hb.size; simp; omega) ?_; intro v' w1 hown' hgrow _)
        go_roundw
        case rel => exact ⟨k + 1, by go_num, by omega, by rw [HN.out, HL.out]; exact hown', (hb.alloc _).grown hgrow (by have := hb.size; simp; omega) (own_lo hown)⟩
        case measure => simp [intOf]; omega
      · have HL := Lib.hid (low_same s[k] (by omega))
        have hdot : ((s[k].toNat : Int) == 46) = true := by rw [hc]; rfl
        have hc0 : (s[k].toNat : Int) < 48 := by omega
        clear hc
        go_wp2_with (at_builtin; refine wpList_append_own _ rfl (.tmp 47) (.tmp 49) 53 rfl w.heap.size 5 i0 (.int .u8 0) 1 1 Tryz.underlying53 hi hz0 hz1 hz2 rfl (by decide) _ _ _ rfl (hown.alloc _) ⟨wr.heap.size, 0, none⟩ 1 1 [.int .u8 (s[k].toNat : Int)] rfl rfl (one_new _ _ _) (by intro u hu; simp at hu; subst hu; rfl) (by unfold maxLen; omega) (by omega) (by have := hb.size; simp; omega) ?_; intro v' w1 hown' hgrow _)
        go_roundw
        case rel => exact ⟨k + 1, by go_num, by omega, by rw [HN.out, HL.out]; exact hown', (hb.alloc _).grown hgrow (by have := hb.size; simp; omega) (own_lo hown)⟩
        case measure => simp [intOf]; omega
    · obtain rfl : k = s.size := by omega
      rw [List.take_of_length_le (by rw [bl_length]; omega)] at hown
      obtain ⟨L, hL⟩ : ∃ L, L = Pl.small (bl s) := ⟨_, rfl⟩
      have hLn : L.length = s.size := by rw [hL]; unfold Pl.small; rw [List.length_map, bl_length]
      rw [← hL] at hown
      obtain ⟨g, cap, rfl, hcap, hcm⟩ := hown.form h0
      have hno : ∀ j, j < s.size → (fb L j == 45) = false := fun j h => by
        rw [fb_at L j (by omega), beq_eq_false_iff_ne]
        have hmem : ∀ x ∈ L, ∃ c ∈ bl s, Pl.low c = x := fun x hx => by rw [hL] at hx; unfold Pl.small at hx; exact List.mem_map.1 hx
        obtain ⟨c, hc, he⟩ := hmem _ (List.getElem_mem (l := L) (n := j) (by omega))
        rw [← he]
        exact low_nc c (HV.out c hc)
      have HC := Lib.hid (own_bytes hown)
      have HD := Lib.hid hno; clear hno
      have HLL := Lib.hid hL; clear hL
      have hcap2 : s.size ≤ cap := by
        rcases hown.2 with ⟨h1, _⟩ | ⟨_, _, _, h1, _, _, h2, _⟩
        · cases h1
        · injection h1 with _ _ h3; omega
      go_wp2
      go_loop [7, 8, 9] (fun f i _ => ∃ a k : Nat, f = .int .i64 a ∧ i = .int .i64 k ∧ a ≤ k ∧ k ≤ s.size + 1) (fun _ i _ => s.size + 1 - (intOf i).toNat)
      case atStart => exact ⟨0, 0, rfl, rfl, by omega, by omega⟩
      case round =>
        obtain ⟨a, k, rfl, rfl, hak, hk2⟩ := hrel
        by_cases hlt2 : k < s.size
        · have hck := HC.out k hlt2
          cases hd : (fb L k != 46) with
          | true =>
            go_wp2
            go_round
            case rel => exact ⟨a, k + 1, rfl, by go_num, by omega, by omega⟩
            case measure => simp [intOf]; omega
          | false =>
            by_cases he : a = k
            · subst he
              go_wp2
              go_round
              case rel => exact ⟨a + 1, a + 1, by go_num, by go_num, by omega, by omega⟩
              case measure => simp [intOf]; omega
            · have hne : (((k - a : Nat) : Int) == 0) = false := by rw [beq_eq_false_iff_ne]; omega
              have c0 := HC.out a (by omega)
              have d0 := HD.out a (by omega)
              have cl := HC.out (a + (k - a - 1)) (by omega)
              have dl := HD.out (a + (k - a - 1)) (by omega)
              have hpos : 0 < k - a := by omega
              by_cases h5 : 4 < ((k - a : Nat) : Int)
              · have c2 := HC.out (a + 2) (by omega)
                have d2 := HD.out (a + 2) (by omega)
                go_wp2
                go_round
                case rel => exact ⟨k + 1, k + 1, by go_num, by go_num, by omega, by omega⟩
                case measure => simp [intOf]; omega
              · have h5 : ((k - a : Nat) : Int) ≤ 4 := by omega
                go_wp2
                go_round
                case rel => exact ⟨k + 1, k + 1, by go_num, by go_num, by omega, by omega⟩
                case measure => simp [intOf]; omega
        · by_cases hend : k = s.size
          · have hge1 : (s.size : Int) ≤ k := by omega
            have hge2 : (k : Int) ≤ s.size := by omega
            clear hend
            by_cases he : a = k
            · subst he
              go_wp2
              go_round
              case rel => exact ⟨a + 1, a + 1, by go_num, by go_num, by omega, by omega⟩
              case measure => simp [intOf]; omega
            · have hne : (((k - a : Nat) : Int) == 0) = false := by rw [beq_eq_false_iff_ne]; omega
              have c0 := HC.out a (by omega)
              have d0 := HD.out a (by omega)
              have cl := HC.out (a + (k - a - 1)) (by omega)
              have dl := HD.out (a + (k - a - 1)) (by omega)
              have hpos : 0 < k - a := by omega
              by_cases h5 : 4 < ((k - a : Nat) : Int)
              · have c2 := HC.out (a + 2) (by omega)
                have d2 := HD.out (a + 2) (by omega)
                go_wp2
                go_round
                case rel => exact ⟨k + 1, k + 1, by go_num, by go_num, by omega, by omega⟩
                case measure => simp [intOf]; omega
              · have h5 : ((k - a : Nat) : Int) ≤ 4 := by omega
                go_wp2
                go_round
                case rel => exact ⟨k + 1, k + 1, by go_num, by go_num, by omega, by omega⟩
                case measure => simp [intOf]; omega
          · have hgt : (s.size : Int) < k := by omega
            have hcv := run_convert_bytes_arg (P := Tryz.prog) wr 53 5 Tryz.underlying53 Tryz.underlying5 g 0 s.size cap (L.map fun c => (c.toNat : Int)) (by rw [List.length_map, hLn]) (fun i hi => by
              rw [Nat.zero_add, HC.out i hi, fb_at L i (by omega)]
              simp [List.getD_eq_getElem?_getD, List.getElem?_eq_getElem (show i < L.length by omega)]) 9 Tryz.underlying9
            clear hend
            go_wp2
            go_ret2
            exact ⟨ret_tup2 (by rw [← HLL.out]; exact congrArg Value.string (strOfNums_mk L)) rfl, hb⟩
end Go.Proofs.YtedniebpabfglaaGreatDoor
