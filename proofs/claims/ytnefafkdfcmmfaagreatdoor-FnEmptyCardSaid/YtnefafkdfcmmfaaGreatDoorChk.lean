/- The walk of checkNameConstraints, of texts. -/
import Derived.Test.YtnefafkdfcmmfaaGreatDoorMade
namespace Go.Proofs.YtnefafkdfcmmfaaGreatDoor
open Go.RowKit

/-- Whether constraints allow a name. -/
def allows (m : List UInt8 → Bool) (permitted excluded : List (List UInt8)) : Bool := !excluded.any m && (permitted.isEmpty || permitted.any m)
/-- No error; or one that says that a name is not allowed. -/
def NotPost (ok : Bool) (nt nm : ByteArray) (w : World) (e : Ending) (w' : World) : Prop :=
  Ext w w' ∧ (if ok then e = .returned .nilIface else ∃ b, w.heap.size ≤ b ∧ e = .returned (.iface 96 (.pointer (some ⟨b, 0, none⟩))) ∧ Blk w' b 100 #[.int .i64 1, .string nt, .string nm])
/-- What a matcher returns. -/
def MatchPost (r : Bool) (w : World) (e : Ending) (w' : World) : Prop := e = .returned (.tuple #[.bool r, .nilIface]) ∧ Ext w w'

set_option maxHeartbeats 4000000 in
set_option maxRecDepth 100000 in
theorem chk_any (nt nm : ByteArray) (F : FuncId) (cap : Array Value) (m : List UInt8 → Bool) (A1 A2 : Option Addr) (n1 n2 c1 c2 : Nat) (xs1 xs2 : List ByteArray) (w : World)
    (h1 : RdS w A1 n1 xs1) (h2 : RdS w A2 n2 xs2)
    (hcf : ∀ (args : Array Value) (w : World), (callFunc F args).run Tryz.prog w = .ok (.enter F args) w)
    (hF : ∀ x, x ∈ xs1 ∨ x ∈ xs2 → ∀ w', Ext w w' → Calls Tryz.prog F (#[.string x] ++ cap) w' (MatchPost (m (bl x)) w')) :
    Calls Tryz.prog 99 #[.string nt, .string nm, .func (.func F) #[] cap, .slice A1 n1 c1, .slice A2 n2 c2] w
      (NotPost (allows m (xs1.map bl) (xs2.map bl)) nt nm w) := by
  have H1 := Lib.hid h1; clear h1
  have H2 := Lib.hid h2; clear h2
  have HF := Lib.hid hF; clear hF
  have hn1 := H1.out.2.1
  have hn2 := H2.out.2.1
  go_enter Tryz.func99, Tryz.ntmps99
  go_wp2
  go_loopw [12, 13, 14, 21] (fun _ _ _ i wr => ∃ k : Nat, i = .int .i64 k ∧ k ≤ n2 ∧ ((xs2.map bl).take k).any m = false ∧ Ext w wr) (fun _ _ _ i _ => n2 - (intOf i).toNat)
  case atStart => exact ⟨0, rfl, by omega, by simp, Ext.refl w⟩
  case round =>
    obtain ⟨k, rfl, hk, hno, hb⟩ := hrel
    have HNO := Lib.hid hno; clear hno
    by_cases hlt : k < n2
    · have hkx : k < xs2.length := by rw [H2.out.1]; exact hlt
      obtain ⟨ad, rfl, hc⟩ := (H2.out.ext hb).2.2 k hkx
      obtain ⟨x, hx⟩ : ∃ x, x = xs2[k] := ⟨_, rfl⟩
      rw [← hx] at hc
      have hxm : x ∈ xs2 := by rw [hx]; exact List.getElem_mem hkx
      have htk : Hid ((xs2.map bl).take (k + 1) = (xs2.map bl).take k ++ [bl x]) := by
        unfold Hid
        rw [List.take_succ_eq_append_getElem (by rw [List.length_map]; exact hkx), List.getElem_map, hx]
      clear hx
      go_wp2_with fail
      refine (HF.out x (.inr hxm) _ hb).mono ?_
      rintro e w2 ⟨rfl, hb2⟩
      cases hm : m (bl x) with
      | true =>
        have HM := Lib.hid hm; clear hm
        go_wp2
        go_ret
        refine ⟨(hb.tr hb2).alloc _, ?_⟩
        have hno : allows m (xs1.map bl) (xs2.map bl) = false := by
          unfold allows
          rw [List.any_eq_true.2 ⟨bl x, List.mem_map.2 ⟨x, hxm, rfl⟩, HM.out⟩]
          rfl
        rw [if_neg (by rw [hno]; decide)]
        exact ⟨w2.heap.size, (hb.tr hb2).size, rfl, Blk.new _ _ _⟩
      | false =>
        have HM := Lib.hid hm; clear hm
        go_wp2
        go_roundw
        case rel => exact ⟨k + 1, by go_num, by omega, by rw [htk.out, List.any_append, HNO.out]; simp [HM.out], hb.tr hb2⟩
        case measure => simp [intOf]; omega
    · obtain rfl : k = n2 := by omega
      rw [List.take_of_length_le (by rw [List.length_map, H2.out.1]; omega)] at HNO
      have HB := Lib.hid hb; clear hb
      obtain ⟨wo, rfl⟩ : ∃ wo : World, wo = wr := ⟨_, rfl⟩
      go_wp2
      go_loopw [15, 17, 18, 47] (fun v _ _ i wr => ∃ k : Nat, i = .int .i64 k ∧ k ≤ n1 ∧ v = .bool (k == 0) ∧ ((xs1.map bl).take k).any m = false ∧ Ext w wr) (fun _ _ _ i _ => n1 - (intOf i).toNat)
      case atStart => exact ⟨0, rfl, by omega, rfl, by simp, HB.out⟩
      case round =>
        obtain ⟨k, rfl, hk, rfl, hno1, hb⟩ := hrel
        have HN1 := Lib.hid hno1; clear hno1
        by_cases hlt1 : k < n1
        · have hkx : k < xs1.length := by rw [H1.out.1]; exact hlt1
          obtain ⟨ad, rfl, hc⟩ := (H1.out.ext hb).2.2 k hkx
          obtain ⟨x, hx⟩ : ∃ x, x = xs1[k] := ⟨_, rfl⟩
          rw [← hx] at hc
          have hxm : x ∈ xs1 := by rw [hx]; exact List.getElem_mem hkx
          have htk : Hid ((xs1.map bl).take (k + 1) = (xs1.map bl).take k ++ [bl x]) := by
            unfold Hid
            rw [List.take_succ_eq_append_getElem (by rw [List.length_map]; exact hkx), List.getElem_map, hx]
          clear hx
          go_wp2_with fail
          refine (HF.out x (.inl hxm) _ hb).mono ?_
          rintro e w2 ⟨rfl, hb2⟩
          cases hm : m (bl x) with
          | true =>
            have HM := Lib.hid hm; clear hm
            go_wp2
            go_ret
            refine ⟨hb.tr hb2, ?_⟩
            have hyes : allows m (xs1.map bl) (xs2.map bl) = true := by
              unfold allows
              rw [HNO.out, List.any_eq_true.2 ⟨bl x, List.mem_map.2 ⟨x, hxm, rfl⟩, HM.out⟩]
              simp
            rw [if_pos hyes]
            rfl
          | false =>
            have HM := Lib.hid hm; clear hm
            go_wp2
            go_roundw
            case rel => exact ⟨k + 1, by go_num, by omega, rfl, by rw [htk.out, List.any_append, HN1.out]; simp [HM.out], hb.tr hb2⟩
            case measure => simp [intOf]; omega
        · obtain rfl : k = n1 := by omega
          rw [List.take_of_length_le (by rw [List.length_map, H1.out.1]; omega)] at HN1
          have hall : Hid (allows m (xs1.map bl) (xs2.map bl) = (k == 0)) := by
            unfold Hid allows
            rw [HNO.out, HN1.out]
            have : (xs1.map bl).isEmpty = (k == 0) := by
              rw [← H1.out.1]
              cases xs1 <;> simp
            rw [this]
            simp
          cases hk0 : (k == 0) with
          | true =>
            rw [hk0] at hall
            clear hk0
            go_wp2
            go_ret
            refine ⟨hb, ?_⟩
            rw [if_pos hall.out]
            rfl
          | false =>
            rw [hk0] at hall
            clear hk0
            go_wp2
            go_ret
            refine ⟨hb.alloc _, ?_⟩
            rw [if_neg (by rw [hall.out]; decide)]
            exact ⟨_, hb.size, rfl, Blk.new _ _ _⟩
end Go.Proofs.YtnefafkdfcmmfaaGreatDoor
