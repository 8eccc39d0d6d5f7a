/- The walks of zzFits3 and spec.AreNames. The walks of taken and ZZIPs. -/
import Derived.Test.YtnefafkdfcmmfaaGreatDoorHost
import Derived.Test.YtnefafkdfcmmfaaGreatDoorFits
import Derived.Test.YtnefafkdfcmmfaaGreatDoorUrl
import Derived.Test.YtnefafkdfcmmfaaGreatDoorRight
section
namespace Go.Proofs.YtnefafkdfcmmfaaGreatDoor
open Go.RowKit

/-- A slice of bytes. -/
def BytS (w : World) (v : Value) (l : List UInt8) : Prop :=
  ∃ A c, v = .slice A l.length c ∧ l.length ≤ maxLen ∧ ∀ j, j < l.length → ∃ ad, A = some ad ∧ w.cell? (ad.add j) = some (.int .u8 ((l.getD j 0).toNat : Int))
theorem BytS.ext {w w' : World} {v : Value} {l : List UInt8} (h : BytS w v l) (hx : Ext w w') : BytS w' v l := by
  obtain ⟨A, c, h1, h2, h3⟩ := h
  exact ⟨A, c, h1, h2, fun j hj => by
    obtain ⟨ad, e, hc⟩ := h3 j hj
    exact ⟨ad, e, hx.cell hc⟩⟩
/-- A slice of slices of bytes. -/
def RdB (w : World) (A : Option Addr) (n : Nat) (bs : List (List UInt8)) : Prop :=
  bs.length = n ∧ n ≤ 140737488355328 ∧ ∀ j, (h : j < bs.length) → ∃ ad v, A = some ad ∧ w.cell? (ad.add j) = some v ∧ BytS w v bs[j]
theorem RdB.ext {w w' : World} {A : Option Addr} {n : Nat} {bs : List (List UInt8)} (h : RdB w A n bs) (hx : Ext w w') : RdB w' A n bs :=
  ⟨h.1, h.2.1, fun j hj => by
    obtain ⟨ad, v, e, hc, hb⟩ := h.2.2 j hj
    exact ⟨ad, v, e, hx.cell hc, hb.ext hx⟩⟩
def AnyBool (w : World) (e : Ending) (w' : World) : Prop := ∃ b : Bool, e = .returned (.bool b) ∧ Ext w w'
set_option maxHeartbeats 1000000 in
theorem zzFits3_any (A : Option Addr) (n c : Nat) (bs : List (List UInt8)) (w : World) (hr : RdB w A n bs) :
    Calls Tryz.prog 18 #[.slice A n c] w (AnyBool w) := by
  have HR := Lib.hid hr; clear hr
  have hn : n ≤ 140737488355328 := HR.out.2.1
  go_enter Tryz.func18, Tryz.ntmps18
  by_cases hbig : 2147483647 < (n : Int)
  · go_wp2
    go_ret
    exact ⟨false, rfl, Ext.refl w⟩
  · go_wp2
    go_loopw [4, 10] (fun _ i wr => ∃ k : Nat, i = .int .i64 k ∧ k ≤ n ∧ Ext w wr) (fun _ i _ => n - (intOf i).toNat)
    case atStart => exact ⟨0, rfl, by omega, Ext.refl w⟩
    case round =>
      obtain ⟨k, rfl, hk, hb⟩ := hrel
      by_cases hlt : k < n
      · have hkx : k < bs.length := by rw [HR.out.1]; exact hlt
        obtain ⟨ad, v, rfl, hc, A2, c2, rfl, hl2, _⟩ := (HR.out.ext hb).2.2 k hkx
        clear hl2
        generalize (bs[k]).length = m at hc
        by_cases hbg : 2147483647 < (m : Int)
        · go_wp2
          go_ret
          exact ⟨false, rfl, hb⟩
        · go_wp2
          go_roundw
          case rel => exact ⟨k + 1, by go_num, by omega, hb⟩
          case measure => simp [intOf]; omega
      · go_wp2
        go_ret
        exact ⟨true, rfl, hb⟩
def pMail (x : ByteArray) : Bool := Pl.isMail (bl x)
def pHost (x : ByteArray) : Bool := Pl.isHost (bl x)
def is4 (l : List UInt8) : Bool := l.length == 4
/-- Whether names are right. -/
def areN (d : List ByteArray) (bs : List (List UInt8)) (m u : List ByteArray) : Bool := bs.all is4 && decide (bs.length ≤ 6) && areP pNam d && areP pMail m && areP pHost u
theorem call_aName (args : Array Value) (w : World) : (callFunc 39 args).run Tryz.prog w = .ok (.enter 39 args) w := by
  unfold callFunc
  simp [go_sem, Tryz.func39, Tryz.f39]
theorem call_aURI (args : Array Value) (w : World) : (callFunc 40 args).run Tryz.prog w = .ok (.enter 40 args) w := by
  unfold callFunc
  simp [go_sem, Tryz.func40, Tryz.f40]
theorem call_aMail (args : Array Value) (w : World) : (callFunc 42 args).run Tryz.prog w = .ok (.enter 42 args) w := by
  unfold callFunc
  simp [go_sem, Tryz.func42, Tryz.f42]
set_option maxHeartbeats 4000000 in
set_option maxRecDepth 100000 in
theorem AreNames_any (d m u : Sl) (A : Option Addr) (n c : Nat) (bs : List (List UInt8)) (w : World) (hd : d.ok w) (hm : m.ok w) (hu : u.ok w) (hr : RdB w A n bs) :
    Calls Tryz.prog 19 #[d.val, .slice A n c, m.val, u.val] w (BoolPost (areN d.xs bs m.xs u.xs) w) := by
  have HR := Lib.hid hr; clear hr
  have HD := Lib.hid hd; have HM := Lib.hid hm; have HU := Lib.hid hu; clear hd hm hu
  have hn : n ≤ 140737488355328 := HR.out.2.1
  go_enter Tryz.func19, Tryz.ntmps19
  go_wp2
  go_loopw [10, 15] (fun _ i wr => ∃ k : Nat, i = .int .i64 k ∧ k ≤ n ∧ (bs.take k).all is4 = true ∧ Ext w wr) (fun _ i _ => n - (intOf i).toNat)
  case atStart => exact ⟨0, rfl, by omega, by simp, Ext.refl w⟩
  case round =>
    obtain ⟨k, rfl, hk, hall, hb⟩ := hrel
    have HA := Lib.hid hall; clear hall
    by_cases hlt : k < n
    · have hkx : k < bs.length := by rw [HR.out.1]; exact hlt
      obtain ⟨ad, v, rfl, hc, A2, c2, rfl, hl2, _⟩ := (HR.out.ext hb).2.2 k hkx
      have hq : Hid (is4 bs[k] = ((bs[k]).length == 4)) := rfl
      obtain ⟨q, hqq⟩ : ∃ q, q = (bs[k]).length := ⟨_, rfl⟩
      have HQ : Hid (is4 bs[k] = (q == 4)) := by unfold Hid; rw [hqq]; exact hq.out
      rw [← hqq] at hc
      clear hqq hq hl2
      by_cases h4 : q = 4
      · subst h4
        go_wp2
        go_roundw
        case rel => exact ⟨k + 1, by go_num, by omega, by rw [List.take_succ_eq_append_getElem hkx, List.all_append, HA.out]; simp [HQ.out], hb⟩
        case measure => simp [intOf]; omega
      · have hne : ((q : Int) != 4) = true := by rw [bne_iff_ne]; omega
        go_wp2
        go_ret
        exact ⟨ret_bool (by
          have : bs.all is4 = false := List.all_eq_false.2 ⟨_, List.getElem_mem hkx, by rw [HQ.out]; simpa using h4⟩
          unfold areN; rw [this]; rfl), hb⟩
    · obtain rfl : k = n := by omega
      rw [List.take_of_length_le (by rw [HR.out.1]; omega)] at HA
      have HB := Lib.hid hb; clear hb
      by_cases h6 : (k : Int) ≤ 6
      · have HQ : Hid (areN d.xs bs m.xs u.xs = (areP pNam d.xs && areP pMail m.xs && areP pHost u.xs)) := by
          unfold Hid areN
          rw [HA.out, decide_eq_true (show bs.length ≤ 6 by rw [HR.out.1]; omega)]
          rfl
        go_wp2_with fail
        refine (areAll_any 39 pNam _ _ _ d.xs _ (HD.out.1.ext HB.out) call_aName (fun x hx w' => areName_any x w' (HD.out.2 x hx))).mono ?_
        rintro e w1 ⟨rfl, hb1⟩
        have HB1 := Lib.hid (HB.out.tr hb1); clear hb1
        cases h0 : (d.xs.all pNam && decide (d.xs.length ≤ 6)) with
        | false =>
          have HF : Hid (areN d.xs bs m.xs u.xs = false) := by unfold Hid; rw [HQ.out, areP, h0]; rfl
          clear h0
          go_wp2
          go_ret
          exact ⟨ret_bool HF.out.symm, HB1.out⟩
        | true =>
          have HQ1 : Hid (areN d.xs bs m.xs u.xs = (areP pMail m.xs && areP pHost u.xs)) := by unfold Hid; rw [HQ.out, show areP pNam d.xs = true from h0]; rfl
          clear h0
          go_wp2_with fail
          refine (areAll_any 42 pMail _ _ _ m.xs _ (HM.out.1.ext HB1.out) call_aMail (fun x hx w' => IsMail_any x w' (HM.out.2 x hx))).mono ?_
          rintro e w2 ⟨rfl, hb2⟩
          have HB2 := Lib.hid (HB1.out.tr hb2); clear hb2
          cases h0 : (m.xs.all pMail && decide (m.xs.length ≤ 6)) with
          | false =>
            have HF : Hid (areN d.xs bs m.xs u.xs = false) := by unfold Hid; rw [HQ1.out, areP, h0]; rfl
            clear h0
            go_wp2
            go_ret
            exact ⟨ret_bool HF.out.symm, HB2.out⟩
          | true =>
            have HQ2 : Hid (areN d.xs bs m.xs u.xs = areP pHost u.xs) := by unfold Hid; rw [HQ1.out, show areP pMail m.xs = true from h0]; rfl
            clear h0
            go_wp2_with fail
            refine (areAll_any 40 pHost _ _ _ u.xs _ (HU.out.1.ext HB2.out) call_aURI (fun x hx w' => areURI_any x w' (HU.out.2 x hx))).mono ?_
            rintro e w3 ⟨rfl, hb3⟩
            have HB3 := Lib.hid (HB2.out.tr hb3); clear hb3
            go_wp2
            go_ret
            exact ⟨ret_bool (by rw [HQ2.out]; rfl), HB3.out⟩
      · have HF : Hid (areN d.xs bs m.xs u.xs = false) := by
          unfold Hid areN
          rw [HA.out, decide_eq_false (show ¬ bs.length ≤ 6 by rw [HR.out.1]; omega)]
          rfl
        go_wp2
        go_ret
        exact ⟨ret_bool HF.out.symm, HB.out⟩
end Go.Proofs.YtnefafkdfcmmfaaGreatDoor
end
section
namespace Go.Proofs.YtnefafkdfcmmfaaGreatDoor
open Go.RowKit

set_option maxHeartbeats 1000000 in
theorem idxf_none (F : FuncId) (A : Option Addr) (n c : Nat) (xs : List ByteArray) (w : World) (hr : RdS w A n xs)
    (hF : ∀ (args : Array Value) (w : World), (callFunc F args).run Tryz.prog w = .ok (.enter F args) w)
    (hf : ∀ x ∈ xs, ∀ w', Calls Tryz.prog F #[.string x] w' (BoolPost false w')) :
    Calls Tryz.prog 115 #[.slice A n c, .func (.func F) #[] #[]] w (fun e w' => e = .returned (.int .i64 (-1)) ∧ Ext w w') := by
  have HR := Lib.hid hr; clear hr
  have HP := Lib.hid hf; clear hf
  have hn : n ≤ 140737488355328 := HR.out.2.1
  go_enter Tryz.func115, Tryz.ntmps115
  go_wp2
  go_loopw [8] (fun i wr => ∃ k : Nat, i = .int .i64 k ∧ k ≤ n ∧ Ext w wr) (fun i _ => n - (intOf i).toNat)
  case atStart => exact ⟨0, rfl, by omega, Ext.refl w⟩
  case round =>
    obtain ⟨k, rfl, hk, hb⟩ := hrel
    by_cases hlt : k < n
    · obtain ⟨ad, rfl, hc⟩ := (HR.out.ext hb).2.2 k (by rw [HR.out.1]; exact hlt)
      have hkx : k < xs.length := by rw [HR.out.1]; exact hlt
      go_wp2_with fail
      refine (HP.out _ (List.getElem_mem hkx) _).mono ?_
      rintro e w1 ⟨rfl, hb1⟩
      go_wp2
      go_roundw
      case rel => exact ⟨k + 1, by go_num, by omega, hb.tr hb1⟩
      case measure => simp [intOf]; omega
    · go_wp2
      go_ret
      exact ⟨rfl, hb⟩
theorem contf_none (F : FuncId) (A : Option Addr) (n c : Nat) (xs : List ByteArray) (w : World) (hr : RdS w A n xs)
    (hF : ∀ (args : Array Value) (w : World), (callFunc F args).run Tryz.prog w = .ok (.enter F args) w)
    (hf : ∀ x ∈ xs, ∀ w', Calls Tryz.prog F #[.string x] w' (BoolPost false w')) :
    Calls Tryz.prog 65 #[.slice A n c, .func (.func F) #[] #[]] w (BoolPost false w) := by
  have H := Lib.hid (idxf_none F A n c xs w hr hF hf)
  clear hr hF hf
  go_enter Tryz.func65, Tryz.ntmps65
  go_wp2_with fail
  refine H.out.mono ?_
  rintro e w1 ⟨rfl, hb⟩
  go_wp2
  go_ret
  exact ⟨rfl, hb⟩
theorem taken1_any (x : ByteArray) (w : World) (h : Calls Tryz.prog 67 #[.string x] w (BoolPost true w)) :
    Calls Tryz.prog 66 #[.string x] w (BoolPost false w) := by
  have H := Lib.hid h; clear h
  go_enter Tryz.func66, Tryz.ntmps66
  go_wp2_with fail
  refine H.out.mono ?_
  rintro e w1 ⟨rfl, hb⟩
  go_wp2
  go_ret
  exact ⟨rfl, hb⟩
theorem call_taken1 (args : Array Value) (w : World) : (callFunc 66 args).run Tryz.prog w = .ok (.enter 66 args) w := by
  unfold callFunc
  simp [go_sem, Tryz.func66, Tryz.f66]
/-- A text that is taken. -/
def TakenT (x : ByteArray) : Prop := fineT x ∧ ∀ w, Calls Tryz.prog 67 #[.string x] w (BoolPost true w)
theorem taken_any (A : Option Addr) (n c : Nat) (xs : List ByteArray) (w : World) (hr : RdS w A n xs) (hn : n ≤ 20) (hf : ∀ x ∈ xs, TakenT x) :
    Calls Tryz.prog 33 #[.slice A n c] w (BoolPost true w) := by
  have HR := Lib.hid hr; clear hr
  have HF := Lib.hid hf; clear hf
  go_enter Tryz.func33, Tryz.ntmps33
  go_wp2_with fail
  refine (right_any A n c xs w HR.out hn (fun x hx => (HF.out x hx).1)).mono ?_
  rintro e w1 ⟨rfl, hb⟩
  have HB := Lib.hid hb; clear hb
  go_wp2_with fail
  refine (contf_none 66 A n c xs _ (HR.out.ext HB.out) call_taken1 (fun x hx w' => taken1_any x w' ((HF.out x hx).2 w'))).mono ?_
  rintro e w2 ⟨rfl, hb2⟩
  go_wp2
  go_ret
  exact ⟨rfl, HB.out.tr hb2⟩
theorem info_ip : (Tryz.prog.info? 84).map (fun i => (i.zero, i.size, i.bytes)) = some (some (.slice none 0 0), 1, 24) := by kernel_rfl
theorem at0 {w : World} {base : Nat} {e : TypeId} : w.ownsRow base e 1 (.slice none 0 0) 0 [] := ⟨rfl, .inl ⟨rfl, rfl⟩⟩
theorem own_slice {w : World} {base n : Nat} {e : TypeId} {v : Value} {vs : List Value} (h : w.ownsRow base e 1 v n vs) : ∃ A c, v = .slice A n c := by
  rcases h.2 with ⟨rfl, rfl⟩ | ⟨g, cap, cur, rfl, _⟩
  · exact ⟨none, 0, rfl⟩
  · exact ⟨_, cap, rfl⟩
set_option maxHeartbeats 4000000 in
set_option maxRecDepth 100000 in
theorem ZZIPs_any (A : Option Addr) (n c : Nat) (bs : List (List UInt8)) (w : World) (hr : RdB w A n bs) (hn : n ≤ 20) (h4 : ∀ b ∈ bs, b.length = 4) :
    Calls Tryz.prog 38 #[.slice A n c] w (fun e w' => ∃ A' c', e = .returned (.slice A' n c') ∧ Ext w w') := by
  have HR := Lib.hid hr; clear hr
  have H4 := Lib.hid h4; clear h4
  obtain ⟨i0, hi, hz0, hz1, hz2⟩ := info_parts info_ip
  obtain ⟨i1, hj, hy0, hy1, hy2⟩ := info_parts info_u8
  go_enter Tryz.func38, Tryz.ntmps38
  go_wp2
  go_loopw [3, 8] (fun v i wr => ∃ (k : Nat) (vs : List Value), i = .int .i64 k ∧ k ≤ n ∧ wr.ownsRow w.heap.size 84 1 v k vs ∧ Ext w wr) (fun _ i _ => n - (intOf i).toNat)
  case atStart => exact ⟨0, [], rfl, by omega, ⟨rfl, .inl ⟨rfl, rfl⟩⟩, Ext.refl w⟩
  case round =>
    obtain ⟨k, vs, rfl, hk, hown, hb⟩ := hrel
    obtain ⟨Av, cv, rfl⟩ := own_slice hown
    have HO := Lib.hid hown; clear hown
    by_cases hlt : k < n
    · have hkx : k < bs.length := by rw [HR.out.1]; exact hlt
      obtain ⟨ad, ve, rfl, hc, A2, c2, rfl, hl2, hby⟩ := (HR.out.ext hb).2.2 k hkx
      have hl4 : (bs[k]).length = 4 := H4.out _ (List.getElem_mem hkx)
      rw [hl4] at hc hby
      obtain ⟨ad2, rfl, _⟩ := hby 0 (by omega)
      obtain ⟨nw, hnw⟩ : ∃ l, l = (List.range 4).map fun j => Value.int .u8 (((bs[k]).getD j 0).toNat : Int) := ⟨_, rfl⟩
      have HNL : Hid (nw.length = 4 * 1) := by unfold Hid; rw [hnw]; rfl
      have HNO : Hid (∀ u ∈ nw, u.oneCell' = true) := by
        intro u hu
        rw [hnw] at hu
        obtain ⟨j, _, rfl⟩ := List.mem_map.1 hu
        rfl
      have HBY : Hid (∀ j u, nw[j]? = some u → wr.cell? (ad2.add j) = some u) := by
        intro j u hu
        rw [hnw] at hu
        have hj4 : j < 4 := by
          rcases Nat.lt_or_ge j 4 with h | h
          · exact h
          · rw [List.getElem?_eq_none (by simpa using h)] at hu; cases hu
        rw [List.getElem?_map, List.getElem?_range hj4] at hu
        injection hu with hu
        obtain ⟨ad3, e, h3⟩ := hby j hj4
        injection e with e
        subst e
        rw [← hu]; exact h3
      have HB := Lib.hid hb
      have hne1 : (Value.slice Av k cv).ownBlock = none ∨ (Value.slice Av k cv).ownBlock ≠ (Value.slice none 0 0).ownBlock := by
        cases h : (Value.slice Av k cv).ownBlock with
        | none => exact .inl rfl
        | some g => right; simp [Value.ownBlock]
      clear hby hl2 hl4 hb hnw
      go_wp2_with (at_builtin; first
        | (refine wpList_append_own _ rfl (.const (.slice none 0 0)) (.tmp 13) 51 rfl wr.heap.size 5 i1 (.int .u8 0) 1 1 Tryz.underlying51 hj hy0 hy1 hy2 rfl (by decide) (.slice none 0 0) 0 [] rfl at0 ad2 4 c2 nw rfl HNL.out HBY.out HNO.out (by unfold maxLen; omega) (by omega) (Nat.le_refl _) ?_; intro v1 w1 hown1 hgrow1 _; obtain ⟨g1, cap1, rfl, _, _⟩ := hown1.form (by omega); have HX1 := Lib.hid (HB.out.grown hgrow1 HB.out.size (by intro k hk; simp [Value.ownBlock] at hk)); have HO1 := Lib.hid (HO.out.kept hgrow1 hne1); clear hown1 hgrow1)
        | (refine wpList_append_own _ rfl (.tmp 12) (.tmp 15) 58 rfl w.heap.size 84 i0 (.slice none 0 0) 1 24 Tryz.underlying58 hi hz0 hz1 hz2 rfl (by decide) _ _ _ rfl (HO1.out.alloc _) ⟨w1.heap.size, 0, none⟩ 1 1 [.slice (some ⟨g1, 0, none⟩) 4 cap1] rfl rfl (one_new _ _ _) (by intro u hu; simp at hu; subst hu; rfl) (by unfold maxLen; omega) (by omega) (by have := HX1.out.size; simp; omega) ?_; intro v2 w2 hown2 hgrow2 _; have HX2 := Lib.hid ((HX1.out.alloc HX1.out.size _).grown hgrow2 (by have := HX1.out.size; simp; omega) (own_lo HO.out)); have HO2 := Lib.hid hown2; clear hown2 hgrow2))
      go_roundw
      case rel => exact ⟨k + 1, _, by go_num, by omega, HO2.out, HX2.out⟩
      case measure => simp [intOf]; omega
    · obtain rfl : k = n := by omega
      go_wp2
      go_ret
      exact ⟨Av, cv, rfl, hb⟩
end Go.Proofs.YtnefafkdfcmmfaaGreatDoor
end
