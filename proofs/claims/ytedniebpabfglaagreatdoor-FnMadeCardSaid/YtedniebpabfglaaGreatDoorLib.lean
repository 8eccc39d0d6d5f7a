/- The library's contracts at the texts that this seat's walks hand on: visible signs of ASCII. -/
import Derived.Test.YtedniebpabfglaaGreatDoorShelf
import Derived.Test.YtedniebpabfglaaGreatDoorPolicy
namespace Go.Proofs.YtedniebpabfglaaGreatDoor
open Go.RowKit

/-- Visible signs of ASCII. -/
def vis (l : List UInt8) : Prop := ∀ x ∈ l, 33 ≤ x.toNat ∧ x.toNat ≤ 126
/-- The text of some bytes. -/
abbrev mk (l : List UInt8) : ByteArray := ⟨l.toArray⟩
theorem bl_mk (l : List UInt8) : bl (mk l) = l := by simp [bl]
theorem mk_bl (s : ByteArray) : mk (bl s) = s := by
  obtain ⟨⟨l⟩⟩ := s
  rfl
theorem eq_of_bl {a b : ByteArray} (h : bl a = bl b) : a = b := by rw [← mk_bl a, h, mk_bl]
theorem size_mk (l : List UInt8) : (mk l).size = l.length := by rw [← bl_length, bl_mk]
theorem vis_ascii {s : ByteArray} (h : vis (bl s)) : ∀ (j : Nat) (b : UInt8), s.data.toList[j]? = some b → b.toNat < 128 := by
  intro j b hb
  have := h b (List.mem_of_getElem? hb)
  omega
theorem vis_sp {l : List UInt8} (h : vis l) : ∀ x ∈ l, Lib.isSp x = false := by
  intro x hx
  have := h x hx
  unfold Lib.isSp
  simp only [Bool.or_eq_false_iff, beq_eq_false_iff_ne, ne_eq]
  refine ⟨⟨⟨⟨⟨?_, ?_⟩, ?_⟩, ?_⟩, ?_⟩, ?_⟩ <;> (rintro rfl; revert this; decide)
theorem dropWhile_none {l : List UInt8} (h : ∀ x ∈ l, Lib.isSp x = false) : l.dropWhile Lib.isSp = l := by
  cases l with
  | nil => rfl
  | cons x r => rw [List.dropWhile_cons, h x (by simp)]; rfl
theorem trim_vis {l : List UInt8} (h : vis l) : Lib.trimSpace l = l := by
  unfold Lib.trimSpace
  rw [dropWhile_none (vis_sp h), dropWhile_none (fun x hx => vis_sp h x (List.mem_reverse.1 hx)), List.reverse_reverse]
/-- The table of white space, as its initialiser lays it. -/
abbrev SpTab (w : World) : Prop := Lib.TabIs Tryz.prog w "strings.asciiSpace" .u8 Lib.asciiSpaceTab
theorem gSp : Tryz.prog.globalNamed "strings.asciiSpace" = some 0 := by kernel_rfl
theorem SpTab.ext {w w' : World} (h : SpTab w) (hx : Ext w w') : SpTab w' := by
  refine var?_below hx gSp ?_ h
  unfold SpTab Lib.TabIs World.var? at h
  simp only [gSp, Option.bind_some] at h
  rcases Nat.lt_or_ge 0 w.heap.size with hlt | hge
  · exact hlt
  · rw [Array.getElem?_eq_none hge] at h; cases h
theorem Trim_any (s : ByteArray) (w : World) (hs : s.size ≤ 2147483647) (hv : vis (bl s)) (ht : SpTab w) :
    Calls Tryz.prog 64 #[.string s] w fun e w' => e = .returned (.string s) ∧ Ext w w' :=
  (Tryz.strings_TrimSpace s w (by omega) (vis_ascii hv) ht).mono fun e w' ⟨he, hw⟩ => ⟨by rw [he, trim_vis hv], by rw [hw]; exact bytesWorld_ext w _ s⟩
theorem lower_small (l : List UInt8) : Lib.toLowerA l = Pl.small l := by
  unfold Lib.toLowerA Pl.small
  congr 1
  funext c
  unfold Lib.lowerB Pl.low Lib.isUpperB
  simp [UInt8.le_iff_toNat_le]
theorem Lower_any (s : ByteArray) (w : World) (hs : s.size ≤ 2147483647) (hv : vis (bl s)) :
    Calls Tryz.prog 63 #[.string s] w fun e w' => e = .returned (.string (mk (Pl.small (bl s)))) ∧ Ext w w' :=
  (Tryz.strings_ToLower_ascii s w (by omega) (vis_ascii hv)).mono fun e w' ⟨he, hw⟩ => ⟨by rw [he, lower_small], hw⟩
end Go.Proofs.YtedniebpabfglaaGreatDoor
