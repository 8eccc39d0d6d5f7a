/- The walks of small functions of package spec: IsDomain, isBox, IsPrincipal, areAll and the closure isName. -/
import Derived.Test.YtedniebpabfglaaGreatDoorLabels
namespace Go.Proofs.YtedniebpabfglaaGreatDoor
open Go.RowKit

/-- It returns this bool; what lay in memory lies there still. -/
def BoolPost (b : Bool) (w : World) (e : Ending) (w' : World) : Prop := e = .returned (.bool b) ∧ Ext w w'

theorem isName1_any (s : ByteArray) (w : World) (hs : s.size ≤ 2147483647) :
    Calls Tryz.prog 8 #[.string s] w (BoolPost (Pl.isName (bl s)) w) := by
  go_enter Tryz.func8, Tryz.ntmps8
  go_wp2_with fail
  refine (Labels_any _ _ (by omega)).mono ?_
  rintro e w1 ⟨A, n, c, xs, rfl, hrd, hxs, hb⟩
  go_wp2
  go_ret
  exact ⟨rfl, hb⟩

theorem isBox_any (s : ByteArray) (w : World) (hs : s.size ≤ 2147483647) :
    Calls Tryz.prog 19 #[.string s] w (BoolPost (Pl.okLab (bl s)) w) := by
  go_enter Tryz.func19, Tryz.ntmps19
  go_wp2_with fail
  refine (Labels_any _ _ (by omega)).mono ?_
  rintro e w1 ⟨A, n, c, xs, rfl, hrd, hxs, hb⟩
  have HX := Lib.hid hxs; clear hxs
  have HN : Hid (∀ m, n = m → xs.length = m) := fun m h => by rw [hrd.1, h]
  clear hrd
  by_cases hn : Pl.isName (bl s) = true
  · have HL : Hid ((decide ((Pl.splitDot (bl s)).length = 1)) = ((n : Int) == 1)) := by
      have h1 : (Pl.splitDot (bl s)).length = n := by rw [← HX.out hn, List.length_map]; exact HN.out n rfl
      unfold Hid
      rw [h1, Bool.eq_iff_iff]
      simp
      omega
    have HE := Lib.hid (Pl.isBox_eq (bl s))
    go_wp2
    go_ret
    exact ⟨ret_bool (by rw [HE.out, hn, HL.out]; rfl), hb⟩
  · have hf : Pl.isName (bl s) = false := by simpa using hn
    clear hn
    have HE := Lib.hid (Pl.isBox_eq (bl s))
    go_wp2
    go_ret
    exact ⟨ret_bool (by rw [HE.out, hf]; rfl), hb⟩

set_option maxHeartbeats 1000000 in
theorem areAll_any (F : FuncId) (p : ByteArray → Bool) (A : Option Addr) (n c : Nat) (xs : List ByteArray) (w : World) (hr : RdS w A n xs)
    (hF : ∀ (args : Array Value) (w : World), (callFunc F args).run Tryz.prog w = .ok (.enter F args) w)
    (hf : ∀ x ∈ xs, ∀ w', Calls Tryz.prog F #[.string x] w' (BoolPost (p x) w')) :
    Calls Tryz.prog 10 #[.slice A n c, .func (.func F) #[] #[]] w (BoolPost (xs.all p && decide (xs.length ≤ 6)) w) := by
  have HR := Lib.hid hr; clear hr
  have HP := Lib.hid hf; clear hf
  have hn : n ≤ 140737488355328 := HR.out.2.1
  go_enter Tryz.func10, Tryz.ntmps10
  go_wp2
  go_loopw [6, 9] (fun _ i wr => ∃ k : Nat, i = .int .i64 k ∧ k ≤ n ∧ (xs.take k).all p = true ∧ Ext w wr) (fun _ i _ => n - (intOf i).toNat)
  case atStart => exact ⟨0, rfl, by omega, by simp, (Ext.refl w)⟩
  case round =>
    obtain ⟨k, rfl, hk, hall, hb⟩ := hrel
    have HA := Lib.hid hall; clear hall
    by_cases hlt : k < n
    · obtain ⟨ad, rfl, hc⟩ := (HR.out.ext hb).2.2 k (by rw [HR.out.1]; exact hlt)
      have hkx : k < xs.length := by rw [HR.out.1]; exact hlt
      cases hp : p xs[k] with
      | true =>
        have HPk := Lib.hid hp; clear hp
        go_wp2_with fail
        refine (HP.out _ (List.getElem_mem hkx) _).mono ?_
        rintro e w1 ⟨rfl, hb1⟩
        rw [HPk.out]
        go_wp2
        go_roundw
        case rel => exact ⟨k + 1, by go_num, by omega, by rw [List.take_succ_eq_append_getElem hkx, List.all_append, HA.out]; simp [HPk.out], hb.tr hb1⟩
        case measure => simp [intOf]; omega
      | false =>
        have HPk := Lib.hid hp; clear hp
        go_wp2_with fail
        refine (HP.out _ (List.getElem_mem hkx) _).mono ?_
        rintro e w1 ⟨rfl, hb1⟩
        rw [HPk.out]
        go_wp2
        go_ret
        exact ⟨ret_bool (by rw [show xs.all p = false from List.all_eq_false.2 ⟨_, List.getElem_mem hkx, by rw [HPk.out]; simp⟩]; rfl), hb.tr hb1⟩
    · go_wp2
      go_ret
      exact ⟨ret_bool (by rw [List.take_of_length_le (by have := HR.out.1; omega)] at HA; rw [HA.out, HR.out.1]; simp; omega), hb⟩
end Go.Proofs.YtedniebpabfglaaGreatDoor
