/- The walks of zzFits1 and zzFits2: whether a policy's lists and texts are not too long. -/
import Derived.Test.YtedniebpabfglaaGreatDoorIsPolicy
namespace Go.Proofs.YtedniebpabfglaaGreatDoor
open Go.RowKit

/-- It returns a bool that is true only where the texts are not too long. -/
def FitsPost (xs : List ByteArray) (w : World) (e : Ending) (w' : World) : Prop :=
  ∃ b : Bool, e = .returned (.bool b) ∧ (b = true → ∀ x ∈ xs, x.size ≤ 2147483647) ∧ Ext w w'
theorem Fits_no {xs : List ByteArray} {w w' : World} (hb : Ext w w') : FitsPost xs w (.returned (.bool false)) w' := ⟨false, rfl, (fun h => by cases h), hb⟩

set_option maxHeartbeats 1000000 in
theorem zzFits2_any (A : Option Addr) (n c : Nat) (xs : List ByteArray) (w : World) (hr : RdS w A n xs) :
    Calls Tryz.prog 7 #[.slice A n c] w (FitsPost xs w) := by
  have HR := Lib.hid hr; clear hr
  have hn : n ≤ 140737488355328 := HR.out.2.1
  go_enter Tryz.func7, Tryz.ntmps7
  by_cases hbig : 2147483647 < (n : Int)
  · go_wp2
    go_ret
    exact Fits_no (Ext.refl w)
  · go_wp2
    go_loopw [4, 10] (fun _ i wr => ∃ k : Nat, i = .int .i64 k ∧ k ≤ n ∧ (∀ x ∈ xs.take k, x.size ≤ 2147483647) ∧ Ext w wr) (fun _ i _ => n - (intOf i).toNat)
    case atStart => exact ⟨0, rfl, by omega, by simp, Ext.refl w⟩
    case round =>
      obtain ⟨k, rfl, hk, hall, hb⟩ := hrel
      have HA := Lib.hid hall; clear hall
      by_cases hlt : k < n
      · obtain ⟨ad, rfl, hc⟩ := (HR.out.ext hb).2.2 k (by rw [HR.out.1]; exact hlt)
        have hkx : k < xs.length := by rw [HR.out.1]; exact hlt
        obtain ⟨x, hx⟩ : ∃ x, x = xs[k] := ⟨_, rfl⟩
        rw [← hx] at hc
        have HX := Lib.hid hx; clear hx
        by_cases hsz : 2147483647 < (x.size : Int)
        · go_wp2
          go_ret
          exact Fits_no hb
        · have HS : Hid (∀ y ∈ xs.take (k + 1), y.size ≤ 2147483647) := by
            intro y hy
            rw [List.take_succ_eq_append_getElem hkx] at hy
            rcases List.mem_append.1 hy with hy | hy
            · exact HA.out y hy
            · simp at hy; rw [hy, ← HX.out]; omega
          go_wp2
          go_roundw
          case rel => exact ⟨k + 1, by go_num, by omega, HS.out, hb⟩
          case measure => simp [intOf]; omega
      · have HS : Hid (∀ y ∈ xs, y.size ≤ 2147483647) := by
          have h := HA.out
          rw [List.take_of_length_le (by have := HR.out.1; omega)] at h
          exact h
        go_wp2
        go_ret
        exact ⟨true, rfl, fun _ => HS.out, hb⟩

/-- A policy's lists can be read. -/
structure Pol.rd (w : World) (q : Pol) : Prop where
  dns : RdS w q.dns.A q.dns.n q.dns.xs
  ndns : RdS w q.ndns.A q.ndns.n q.ndns.xs
  ip : RdS w q.ip.A q.ip.n q.ip.xs
  nip : RdS w q.nip.A q.nip.n q.nip.xs
  em : RdS w q.em.A q.em.n q.em.xs
  nem : RdS w q.nem.A q.nem.n q.nem.xs
  uri : RdS w q.uri.A q.uri.n q.uri.xs
  nuri : RdS w q.nuri.A q.nuri.n q.nuri.xs
  cn : RdS w q.cn.A q.cn.n q.cn.xs
  ncn : RdS w q.ncn.A q.ncn.n q.ncn.xs
  pr : RdS w q.pr.A q.pr.n q.pr.xs
  npr : RdS w q.npr.A q.npr.n q.npr.xs
theorem Pol.rd.ext {w w' : World} {q : Pol} (h : q.rd w) (hx : Ext w w') : q.rd w' := ⟨h.dns.ext hx, h.ndns.ext hx, h.ip.ext hx, h.nip.ext hx, h.em.ext hx, h.nem.ext hx, h.uri.ext hx, h.nuri.ext hx, h.cn.ext hx, h.ncn.ext hx, h.pr.ext hx, h.npr.ext hx⟩

def Fits1Post (q : Pol) (w : World) (e : Ending) (w' : World) : Prop :=
  ∃ b : Bool, e = .returned (.bool b) ∧ (b = true → q.ok w') ∧ Ext w w'
set_option maxHeartbeats 4000000 in
set_option maxRecDepth 100000 in
theorem zzFits1_any (q : Pol) (w : World) (hq : q.rd w) :
    Calls Tryz.prog 4 #[q.val] w (Fits1Post q w) := by
  have HQ := Lib.hid hq; clear hq
  have HB := Lib.hid (Blk.new w 24 q.cells)
  have HX0 : Hid (Ext w (w.alloc (.cells q.cells 24))) := (Ext.refl w).alloc _
  go_enter Tryz.func4, Tryz.ntmps4
  go_wp2_with fail
  refine (zzFits2_any _ _ _ q.dns.xs _ (HQ.out.dns.ext HX0.out)).mono ?_
  rintro e w1 ⟨b0, rfl, hf0, hb1⟩
  have HX1 : Hid (Ext w w1) := HX0.out.tr hb1
  have HB1 : Hid (Blk w1 w.heap.size 24 q.cells) := HB.out.ext hb1
  clear hb1
  have H0 := Lib.hid hf0; clear hf0
  cases b0 with
  | false =>
    go_wp2
    go_ret
    exact ⟨false, rfl, (fun h => by cases h), HX1.out⟩
  | true =>
    have c1 : w1.cell? ⟨w.heap.size, 1, none⟩ = some q.ndns.val := HB1.out.cell 1
    go_wp2_with fail
    clear c1
    refine (zzFits2_any _ _ _ q.ndns.xs _ (HQ.out.ndns.ext HX1.out)).mono ?_
    rintro e w2 ⟨b1, rfl, hf1, hb2⟩
    have HX2 : Hid (Ext w w2) := HX1.out.tr hb2
    have HB2 : Hid (Blk w2 w.heap.size 24 q.cells) := HB1.out.ext hb2
    clear hb2
    have H1 := Lib.hid hf1; clear hf1
    cases b1 with
    | false =>
      go_wp2
      go_ret
      exact ⟨false, rfl, (fun h => by cases h), HX2.out⟩
    | true =>
      have c2 : w2.cell? ⟨w.heap.size, 2, none⟩ = some q.ip.val := HB2.out.cell 2
      go_wp2_with fail
      clear c2
      refine (zzFits2_any _ _ _ q.ip.xs _ (HQ.out.ip.ext HX2.out)).mono ?_
      rintro e w3 ⟨b2, rfl, hf2, hb3⟩
      have HX3 : Hid (Ext w w3) := HX2.out.tr hb3
      have HB3 : Hid (Blk w3 w.heap.size 24 q.cells) := HB2.out.ext hb3
      clear hb3
      have H2 := Lib.hid hf2; clear hf2
      cases b2 with
      | false =>
        go_wp2
        go_ret
        exact ⟨false, rfl, (fun h => by cases h), HX3.out⟩
      | true =>
        have c3 : w3.cell? ⟨w.heap.size, 3, none⟩ = some q.nip.val := HB3.out.cell 3
        go_wp2_with fail
        clear c3
        refine (zzFits2_any _ _ _ q.nip.xs _ (HQ.out.nip.ext HX3.out)).mono ?_
        rintro e w4 ⟨b3, rfl, hf3, hb4⟩
        have HX4 : Hid (Ext w w4) := HX3.out.tr hb4
        have HB4 : Hid (Blk w4 w.heap.size 24 q.cells) := HB3.out.ext hb4
        clear hb4
        have H3 := Lib.hid hf3; clear hf3
        cases b3 with
        | false =>
          go_wp2
          go_ret
          exact ⟨false, rfl, (fun h => by cases h), HX4.out⟩
        | true =>
          have c4 : w4.cell? ⟨w.heap.size, 4, none⟩ = some q.em.val := HB4.out.cell 4
          go_wp2_with fail
          clear c4
          refine (zzFits2_any _ _ _ q.em.xs _ (HQ.out.em.ext HX4.out)).mono ?_
          rintro e w5 ⟨b4, rfl, hf4, hb5⟩
          have HX5 : Hid (Ext w w5) := HX4.out.tr hb5
          have HB5 : Hid (Blk w5 w.heap.size 24 q.cells) := HB4.out.ext hb5
          clear hb5
          have H4 := Lib.hid hf4; clear hf4
          cases b4 with
          | false =>
            go_wp2
            go_ret
            exact ⟨false, rfl, (fun h => by cases h), HX5.out⟩
          | true =>
            have c5 : w5.cell? ⟨w.heap.size, 5, none⟩ = some q.nem.val := HB5.out.cell 5
            go_wp2_with fail
            clear c5
            refine (zzFits2_any _ _ _ q.nem.xs _ (HQ.out.nem.ext HX5.out)).mono ?_
            rintro e w6 ⟨b5, rfl, hf5, hb6⟩
            have HX6 : Hid (Ext w w6) := HX5.out.tr hb6
            have HB6 : Hid (Blk w6 w.heap.size 24 q.cells) := HB5.out.ext hb6
            clear hb6
            have H5 := Lib.hid hf5; clear hf5
            cases b5 with
            | false =>
              go_wp2
              go_ret
              exact ⟨false, rfl, (fun h => by cases h), HX6.out⟩
            | true =>
              have c6 : w6.cell? ⟨w.heap.size, 6, none⟩ = some q.uri.val := HB6.out.cell 6
              go_wp2_with fail
              clear c6
              refine (zzFits2_any _ _ _ q.uri.xs _ (HQ.out.uri.ext HX6.out)).mono ?_
              rintro e w7 ⟨b6, rfl, hf6, hb7⟩
              have HX7 : Hid (Ext w w7) := HX6.out.tr hb7
              have HB7 : Hid (Blk w7 w.heap.size 24 q.cells) := HB6.out.ext hb7
              clear hb7
              have H6 := Lib.hid hf6; clear hf6
              cases b6 with
              | false =>
                go_wp2
                go_ret
                exact ⟨false, rfl, (fun h => by cases h), HX7.out⟩
              | true =>
                have c7 : w7.cell? ⟨w.heap.size, 7, none⟩ = some q.nuri.val := HB7.out.cell 7
                go_wp2_with fail
                clear c7
                refine (zzFits2_any _ _ _ q.nuri.xs _ (HQ.out.nuri.ext HX7.out)).mono ?_
                rintro e w8 ⟨b7, rfl, hf7, hb8⟩
                have HX8 : Hid (Ext w w8) := HX7.out.tr hb8
                have HB8 : Hid (Blk w8 w.heap.size 24 q.cells) := HB7.out.ext hb8
                clear hb8
                have H7 := Lib.hid hf7; clear hf7
                cases b7 with
                | false =>
                  go_wp2
                  go_ret
                  exact ⟨false, rfl, (fun h => by cases h), HX8.out⟩
                | true =>
                  have c8 : w8.cell? ⟨w.heap.size, 8, none⟩ = some q.cn.val := HB8.out.cell 8
                  go_wp2_with fail
                  clear c8
                  refine (zzFits2_any _ _ _ q.cn.xs _ (HQ.out.cn.ext HX8.out)).mono ?_
                  rintro e w9 ⟨b8, rfl, hf8, hb9⟩
                  have HX9 : Hid (Ext w w9) := HX8.out.tr hb9
                  have HB9 : Hid (Blk w9 w.heap.size 24 q.cells) := HB8.out.ext hb9
                  clear hb9
                  have H8 := Lib.hid hf8; clear hf8
                  cases b8 with
                  | false =>
                    go_wp2
                    go_ret
                    exact ⟨false, rfl, (fun h => by cases h), HX9.out⟩
                  | true =>
                    have c9 : w9.cell? ⟨w.heap.size, 9, none⟩ = some q.ncn.val := HB9.out.cell 9
                    go_wp2_with fail
                    clear c9
                    refine (zzFits2_any _ _ _ q.ncn.xs _ (HQ.out.ncn.ext HX9.out)).mono ?_
                    rintro e w10 ⟨b9, rfl, hf9, hb10⟩
                    have HX10 : Hid (Ext w w10) := HX9.out.tr hb10
                    have HB10 : Hid (Blk w10 w.heap.size 24 q.cells) := HB9.out.ext hb10
                    clear hb10
                    have H9 := Lib.hid hf9; clear hf9
                    cases b9 with
                    | false =>
                      go_wp2
                      go_ret
                      exact ⟨false, rfl, (fun h => by cases h), HX10.out⟩
                    | true =>
                      have c10 : w10.cell? ⟨w.heap.size, 10, none⟩ = some q.pr.val := HB10.out.cell 10
                      go_wp2_with fail
                      clear c10
                      refine (zzFits2_any _ _ _ q.pr.xs _ (HQ.out.pr.ext HX10.out)).mono ?_
                      rintro e w11 ⟨b10, rfl, hf10, hb11⟩
                      have HX11 : Hid (Ext w w11) := HX10.out.tr hb11
                      have HB11 : Hid (Blk w11 w.heap.size 24 q.cells) := HB10.out.ext hb11
                      clear hb11
                      have H10 := Lib.hid hf10; clear hf10
                      cases b10 with
                      | false =>
                        go_wp2
                        go_ret
                        exact ⟨false, rfl, (fun h => by cases h), HX11.out⟩
                      | true =>
                        have c11 : w11.cell? ⟨w.heap.size, 11, none⟩ = some q.npr.val := HB11.out.cell 11
                        go_wp2_with fail
                        clear c11
                        refine (zzFits2_any _ _ _ q.npr.xs _ (HQ.out.npr.ext HX11.out)).mono ?_
                        rintro e w12 ⟨b11, rfl, hf11, hb12⟩
                        have HX12 : Hid (Ext w w12) := HX11.out.tr hb12
                        clear hb12
                        have H11 := Lib.hid hf11; clear hf11
                        cases b11 with
                        | false =>
                          go_wp2
                          go_ret
                          exact ⟨false, rfl, (fun h => by cases h), HX12.out⟩
                        | true =>
                          go_wp2
                          go_ret
                          exact ⟨true, rfl, fun _ => ⟨⟨HQ.out.dns.ext HX12.out, by simpa using H0.out⟩, ⟨HQ.out.ndns.ext HX12.out, by simpa using H1.out⟩, ⟨HQ.out.ip.ext HX12.out, by simpa using H2.out⟩, ⟨HQ.out.nip.ext HX12.out, by simpa using H3.out⟩, ⟨HQ.out.em.ext HX12.out, by simpa using H4.out⟩, ⟨HQ.out.nem.ext HX12.out, by simpa using H5.out⟩, ⟨HQ.out.uri.ext HX12.out, by simpa using H6.out⟩, ⟨HQ.out.nuri.ext HX12.out, by simpa using H7.out⟩, ⟨HQ.out.cn.ext HX12.out, by simpa using H8.out⟩, ⟨HQ.out.ncn.ext HX12.out, by simpa using H9.out⟩, ⟨HQ.out.pr.ext HX12.out, by simpa using H10.out⟩, ⟨HQ.out.npr.ext HX12.out, by simpa using H11.out⟩⟩, HX12.out⟩
end Go.Proofs.YtedniebpabfglaaGreatDoor
