/- The walk of domainToReverseLabels at texts whose labels are not empty: the labels, from the last one on. -/
import Derived.Test.YtedniebpabfglaaGreatDoorLookup
import Derived.Test.YtedniebpabfglaaGreatDoorPlain2
namespace Go.Proofs.YtedniebpabfglaaGreatDoor
open Go.RowKit

def RevPost (s : ByteArray) (w : World) (e : Ending) (w' : World) : Prop :=
  ∃ A n c xs, e = .returned (.tuple #[.slice A n c, .bool true]) ∧ RdS w' A n xs ∧ xs.map bl = (Pl.labs (bl s)).reverse ∧ (∀ x ∈ xs, x.size ≤ s.size) ∧ Ext w w'
theorem own_ext {w w1 : World} {base : Nat} {e : TypeId} {size n : Nat} {v : Value} {xs : List Value} (h : w.ownsRow base e size v n xs) (hb : Ext w w1) : w1.ownsRow base e size v n xs :=
  h.kept (row := none) ⟨hb.os, hb.tape, hb.output, hb.size, fun i hi _ => hb.block i hi⟩ (by cases v.ownBlock <;> simp)
theorem iter_ext (w : World) (s : ByteArray) (p : Nat) : Ext w (w.iter s p) := by
  unfold World.iter
  exact (Ext.refl w).alloc _
theorem bl_dot : bl (⟨#[46]⟩ : ByteArray) = [46] := rfl

def strSize : Value → Nat | .string s => s.size | _ => 0
set_option maxHeartbeats 4000000 in
set_option maxRecDepth 100000 in
theorem Rev_any (s : ByteArray) (w : World) (hs : s.size ≤ 2147483647) (hne : Pl.labs (bl s) ≠ []) (hl : ∀ l ∈ Pl.labs (bl s), l ≠ []) (hv : vis (bl s)) :
    Calls Tryz.prog 69 #[.string s] w (RevPost s w) := by
  have HNE := Lib.hid hne; clear hne
  have HL := Lib.hid hl; clear hl
  have HV := Lib.hid hv; clear hv
  obtain ⟨i0, hi, hz0, hz1, hz2⟩ := info_parts info_string
  go_enter Tryz.func69, Tryz.ntmps69
  go_wp2
  go_loopw [0, 2, 4] (fun d v _ wr => ∃ (x : ByteArray) (xs : List ByteArray), d = .string x ∧ x.size + xs.length ≤ s.size + 1 ∧ (0 < x.size → x.size + xs.length ≤ s.size) ∧ xs.map bl ++ (Pl.labs (bl x)).reverse = (Pl.labs (bl s)).reverse ∧ (∀ y ∈ xs, y.size ≤ s.size) ∧ wr.ownsRow w.heap.size 9 1 v xs.length (xs.map .string) ∧ Ext w wr) (fun d _ _ _ => strSize d)
  case atStart => exact ⟨s, [], rfl, by simp, by simp, by simp, by simp, ⟨rfl, .inl ⟨rfl, rfl⟩⟩, Ext.refl w⟩
  case round =>
    obtain ⟨x, xs, rfl, hx1, hx2, hlab, hxs, hown, hb⟩ := hrel
    have HLB := Lib.hid hlab; clear hlab
    have HXS := Lib.hid hxs; clear hxs
    by_cases h0 : 0 < x.size
    · have hx3 := hx2 h0
      clear hx2
      have hemp : ¬ x.toList = [] := by rw [toList_bl]; intro e; have := bl_length x; rw [e] at this; simp at this; omega
      have hemp2 : x.toList.isEmpty = false := by rw [List.isEmpty_eq_false_iff]; exact hemp
      go_wp2_with fail
      refine (zzLast_any _ _ _ (by omega) (by show (1 : Nat) ≤ _; omega)).mono ?_
      rintro e w1 ⟨k, rfl, hk, hb1⟩
      rcases hk with ⟨rfl, hk⟩ | ⟨i, rfl, hi2, ha, hk⟩
      · have HN : Hid ((xs ++ [x]).map bl ++ (Pl.labs (bl (⟨#[]⟩ : ByteArray))).reverse = (Pl.labs (bl s)).reverse) := by
          have h1 : Pl.labs (bl x) = [bl x] := Pl.labs_plain _ (Pl.no_dot hk) (by rw [← toList_bl]; exact hemp)
          have h2 := HLB.out
          unfold Hid
          rw [h1] at h2
          rw [← h2]
          simp [bl, Pl.labs_nil]
        have HXN : Hid (∀ y ∈ xs ++ [x], y.size ≤ s.size) := by
          intro y hy
          rcases List.mem_append.1 hy with hy | hy
          · exact HXS.out y hy
          · simp at hy; subst hy; omega
        clear hk
        have hown1 : w1.ownsRow w.heap.size 9 1 u2 xs.length (xs.map .string) := own_ext hown hb1
        have hbb := hb.tr hb1
        go_wp2_with (at_builtin; refine wpList_append_own _ rfl (.tmp 15) (.tmp 17) 22 rfl w.heap.size 9 i0 (.string ⟨#[]⟩) 1 16 Tryz.underlying22 hi hz0 hz1 hz2 rfl (by decide) _ _ _ rfl (hown1.alloc _) ⟨w1.heap.size, 0, none⟩ 1 1 [.string x] rfl rfl (one_new _ _ _) (by intro u hu; simp at hu; subst hu; rfl) (by unfold maxLen; omega) (by omega) (by have := hbb.size; simp; omega) ?_; intro v' w2 hown' hgrow _)
        go_roundw
        case rel => exact ⟨⟨#[]⟩, xs ++ [x], rfl, by rw [show (⟨#[]⟩ : ByteArray).size = 0 from rfl]; simp; omega, by intro h; exact absurd h (by show ¬ (0 < 0); omega), HN.out, HXN.out, by simpa using hown', (hbb.alloc _).grown hgrow (by have := hbb.size; simp; omega) (own_lo hown1)⟩
        case measure => simp [strSize]; exact h0
      · have hi3 : i + 1 ≤ x.size := hi2
        have HN : Hid ((xs ++ [x.extract (i + 1) x.size]).map bl ++ (Pl.labs (bl (x.extract 0 i))).reverse = (Pl.labs (bl s)).reverse) := by
          obtain ⟨h1, h2⟩ := Pl.cut_last (d := bl x) (i := i) (by rw [bl_length]; exact hi3) ha (fun j h1 h2 => hk j h1 (by rw [bl_length] at h2; exact h2))
          have h3 := HLB.out
          unfold Hid
          rw [h1, Pl.labs_snoc _ _ h2] at h3
          rw [← h3]
          simp only [List.map_append, List.map_cons, List.map_nil, bl_extract, List.drop_zero, Nat.sub_zero, List.reverse_append, List.reverse_cons, List.reverse_nil, List.nil_append, List.append_assoc, List.singleton_append]
          rw [List.take_of_length_le (l := (bl x).drop (i + 1)) (by rw [List.length_drop, bl_length]; omega)]
        have HXN : Hid (∀ y ∈ xs ++ [x.extract (i + 1) x.size], y.size ≤ s.size) := by
          intro y hy
          rcases List.mem_append.1 hy with hy | hy
          · exact HXS.out y hy
          · simp at hy; subst hy; rw [ByteArray.size_extract]; omega
        have hk1 : ((i : Int) == -1) = false := by rw [beq_eq_false_iff_ne]; omega
        clear hk ha
        have hown1 : w1.ownsRow w.heap.size 9 1 u2 xs.length (xs.map .string) := own_ext hown hb1
        have hbb := hb.tr hb1
        go_wp2_with (at_builtin; refine wpList_append_own _ rfl (.tmp 19) (.tmp 24) 22 rfl w.heap.size 9 i0 (.string ⟨#[]⟩) 1 16 Tryz.underlying22 hi hz0 hz1 hz2 rfl (by decide) _ _ _ rfl (hown1.alloc _) ⟨w1.heap.size, 0, none⟩ 1 1 [.string (x.extract (i + 1) x.size)] rfl rfl (one_new _ _ _) (by intro u hu; simp at hu; subst hu; rfl) (by unfold maxLen; omega) (by omega) (by have := hbb.size; simp; omega) ?_; intro v' w2 hown' hgrow _)
        go_roundw
        case rel => exact ⟨x.extract 0 i, xs ++ [x.extract (i + 1) x.size], rfl, by rw [ByteArray.size_extract]; simp; omega, by intro _; rw [ByteArray.size_extract]; simp; omega, HN.out, HXN.out, by simpa using hown', (hbb.alloc _).grown hgrow (by have := hbb.size; simp; omega) (own_lo hown1)⟩
        case measure => simp [strSize, ByteArray.size_extract]; omega
    · have hx0 : x = ⟨#[]⟩ := eq_of_bl (by show bl x = []; exact List.eq_nil_of_length_eq_zero (by rw [bl_length]; omega))
      subst hx0
      have HXB : Hid (xs.map bl = (Pl.labs (bl s)).reverse) := by
        have h := HLB.out
        unfold Hid
        rw [← h]; simp [bl, Pl.labs_nil]
      have HXV : Hid (∀ y ∈ xs, bl y ≠ [] ∧ vis (bl y)) := by
        intro y hy
        have h1 : bl y ∈ (Pl.labs (bl s)).reverse := by rw [← HXB.out]; exact List.mem_map_of_mem hy
        rw [List.mem_reverse] at h1
        exact ⟨HL.out _ h1, fun z hz => HV.out z (Pl.labs_mem _ h1 z hz)⟩
      have hpos : 0 < xs.length := by
        rcases Nat.eq_zero_or_pos xs.length with h | h
        · exfalso
          have h2 := HXB.out
          rw [List.eq_nil_of_length_eq_zero h] at h2
          exact HNE.out (List.reverse_eq_nil_iff.1 h2.symm)
        · exact h
      obtain ⟨A, c, rfl, hrd⟩ := own_rdS hown (by omega)
      obtain ⟨n, hn⟩ : ∃ n, n = xs.length := ⟨_, rfl⟩
      have HR := Lib.hid hrd; clear hrd
      have hx4 : xs.length ≤ s.size + 1 := by rw [show (⟨#[]⟩ : ByteArray).size = 0 from rfl] at hx1; omega
      clear hx1
      clear hx2 hown HLB h0
      obtain ⟨ad, rfl, hc0⟩ := HR.out.2.2 0 hpos
      obtain ⟨y0, hy0⟩ : ∃ y, y = xs[0] := ⟨_, rfl⟩
      rw [← hy0, show ad.add 0 = ad by simp [Addr.add]] at hc0
      have hy1 : ¬ y0.toList = [] := by rw [toList_bl, hy0]; exact (HXV.out _ (List.getElem_mem hpos)).1
      have hy2 : y0.toList.isEmpty = false := by rw [List.isEmpty_eq_false_iff]; exact hy1
      clear hy0
      obtain ⟨wo, rfl⟩ : ∃ wo : World, wo = wr := ⟨_, rfl⟩
      go_wp2
      go_loopw [2, 40] (fun v2 i w2 => ∃ k : Nat, v2 = .slice (some ad) xs.length c ∧ i = .int .i64 k ∧ k ≤ xs.length ∧ Ext wo w2) (fun _ i _ => xs.length - (intOf i).toNat)
      case atStart => exact ⟨0, rfl, rfl, by omega, Ext.refl wo⟩
      case round =>
        obtain ⟨k, rfl, rfl, hk, hb2⟩ := hrel
        by_cases hlt : k < xs.length
        · obtain ⟨ad2, had2, hck⟩ := (HR.out.ext hb2).2.2 k hlt
          obtain rfl : ad = ad2 := by injection had2
          obtain ⟨y, hy⟩ : ∃ y, y = xs[k] := ⟨_, rfl⟩
          rw [← hy] at hck
          have hyv := HXV.out y (by rw [hy]; exact List.getElem_mem hlt)
          have hye : ¬ y.toList = [] := by rw [toList_bl]; exact hyv.1
          have hye2 : y.toList.isEmpty = false := by rw [List.isEmpty_eq_false_iff]; exact hye
          have HY := Lib.hid hyv.2
          clear hy hyv
          obtain ⟨wi, rfl⟩ : ∃ wi : World, wi = wr := ⟨_, rfl⟩
          go_wp2
          go_loopw [2] (fun v2 w3 => ∃ pos : Nat, v2 = .slice (some ad) xs.length c ∧ w3 = wi.iter y pos) (fun _ w3 => y.size - w3.iterPos wi.heap.size)
          case atStart => exact ⟨0, rfl, rfl⟩
          case round =>
            obtain ⟨pos, rfl, rfl⟩ := hrel
            by_cases hp : pos < y.size
            · have hyv := HY.out y[pos] (by rw [← bl_get y pos hp]; exact List.getElem_mem _)
              have hnx : ∀ ty, (Instr.next (.pointer (some ⟨wi.heap.size, 0, none⟩)) true ty).run Tryz.prog (wi.iter y pos) = .ok (.tuple #[.bool true, .int .i64 pos, .int .i32 (y[pos].toNat : Int)]) (wi.iter y (pos + 1)) := fun ty => by
                rw [run_next_any wi y pos ty hp, decode_ascii y pos hp (by omega)]
              have hc1 : 33 ≤ (y[pos].toNat : Int) := by omega
              have hc2 : (y[pos].toNat : Int) ≤ 126 := by omega
              clear hyv
              go_wp2
              go_roundw
              case rel => exact ⟨pos + 1, rfl, rfl⟩
              case measure => simp; omega
            · have hnx : ∀ ty, (Instr.next (.pointer (some ⟨wi.heap.size, 0, none⟩)) true ty).run Tryz.prog (wi.iter y pos) = _ := fun ty => run_next_end wi y pos ty hp
              go_wp2
              go_roundw
              case rel => exact ⟨k + 1, rfl, by go_num, by omega, hb2.tr (iter_ext _ _ _)⟩
              case measure => simp [intOf]; omega
        · go_wp2
          go_ret2
          exact ⟨some ad, _, c, xs, rfl, HR.out.ext hb2, HXB.out, HXS.out, hb.tr hb2⟩
end Go.Proofs.YtedniebpabfglaaGreatDoor
