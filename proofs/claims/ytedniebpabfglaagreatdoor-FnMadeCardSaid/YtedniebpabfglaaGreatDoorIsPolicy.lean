/- The walk of spec.IsPolicy: whether a policy's constraints are right. -/
import Derived.Test.YtedniebpabfglaaGreatDoorPolicy
namespace Go.Proofs.YtedniebpabfglaaGreatDoor
open Go.RowKit

theorem call_pDom (args : Array Value) (w : World) : (callFunc 11 args).run Tryz.prog w = .ok (.enter 11 args) w := by
  unfold callFunc
  simp [go_sem, Tryz.func11, Tryz.f11]
theorem call_pRng (args : Array Value) (w : World) : (callFunc 12 args).run Tryz.prog w = .ok (.enter 12 args) w := by
  unfold callFunc
  simp [go_sem, Tryz.func12, Tryz.f12]
theorem call_pBox (args : Array Value) (w : World) : (callFunc 13 args).run Tryz.prog w = .ok (.enter 13 args) w := by
  unfold callFunc
  simp [go_sem, Tryz.func13, Tryz.f13]
theorem call_pNam (args : Array Value) (w : World) : (callFunc 8 args).run Tryz.prog w = .ok (.enter 8 args) w := by
  unfold callFunc
  simp [go_sem, Tryz.func8, Tryz.f8]
theorem call_pPri (args : Array Value) (w : World) : (callFunc 14 args).run Tryz.prog w = .ok (.enter 14 args) w := by
  unfold callFunc
  simp [go_sem, Tryz.func14, Tryz.f14]

set_option maxHeartbeats 4000000 in
set_option maxRecDepth 100000 in
theorem IsPolicy_any (q : Pol) (w : World) (hq : q.ok w) :
    Calls Tryz.prog 5 #[q.val] w (BoolPost q.right w) := by
  have HQ := Lib.hid hq; clear hq
  have HB := Lib.hid (Blk.new w 24 q.cells)
  have HX0 : Hid (Ext w (w.alloc (.cells q.cells 24))) := (Ext.refl w).alloc _
  go_enter Tryz.func5, Tryz.ntmps5
  go_wp2_with fail
  refine (areAll_any 11 pDom _ _ _ q.dns.xs _ (HQ.out.dns.1.ext HX0.out) call_pDom (fun x hx w' => IsDomain_any x w' (HQ.out.dns.2 x hx))).mono ?_
  rintro e w1 ⟨rfl, hb1⟩
  have HX1 : Hid (Ext w w1) := HX0.out.tr hb1
  have HB1 : Hid (Blk w1 w.heap.size 24 q.cells) := HB.out.ext hb1
  clear hb1
  cases h0 : (q.dns.xs.all pDom && decide (q.dns.xs.length ≤ 6)) with
  | false =>
    have HF : Hid (q.right = false) := by unfold Hid Pol.right areP; rw [h0]; simp
    clear h0
    go_wp2
    go_ret
    exact ⟨ret_bool HF.out.symm, HX1.out⟩
  | true =>
    have H0 := Lib.hid h0; clear h0
    have c1 : w1.cell? ⟨w.heap.size, 1, none⟩ = some q.ndns.val := HB1.out.cell 1
    go_wp2_with fail
    clear c1
    refine (areAll_any 11 pDom _ _ _ q.ndns.xs _ (HQ.out.ndns.1.ext HX1.out) call_pDom (fun x hx w' => IsDomain_any x w' (HQ.out.ndns.2 x hx))).mono ?_
    rintro e w2 ⟨rfl, hb2⟩
    have HX2 : Hid (Ext w w2) := HX1.out.tr hb2
    have HB2 : Hid (Blk w2 w.heap.size 24 q.cells) := HB1.out.ext hb2
    clear hb2
    cases h1 : (q.ndns.xs.all pDom && decide (q.ndns.xs.length ≤ 6)) with
    | false =>
      have HF : Hid (q.right = false) := by unfold Hid Pol.right areP; rw [h1]; simp
      clear h1
      go_wp2
      go_ret
      exact ⟨ret_bool HF.out.symm, HX2.out⟩
    | true =>
      have H1 := Lib.hid h1; clear h1
      have c2 : w2.cell? ⟨w.heap.size, 2, none⟩ = some q.ip.val := HB2.out.cell 2
      go_wp2_with fail
      clear c2
      refine (areAll_any 12 pRng _ _ _ q.ip.xs _ (HQ.out.ip.1.ext HX2.out) call_pRng (fun x hx w' => isRange_any x w' (HQ.out.ip.2 x hx))).mono ?_
      rintro e w3 ⟨rfl, hb3⟩
      have HX3 : Hid (Ext w w3) := HX2.out.tr hb3
      have HB3 : Hid (Blk w3 w.heap.size 24 q.cells) := HB2.out.ext hb3
      clear hb3
      cases h2 : (q.ip.xs.all pRng && decide (q.ip.xs.length ≤ 6)) with
      | false =>
        have HF : Hid (q.right = false) := by unfold Hid Pol.right areP; rw [h2]; simp
        clear h2
        go_wp2
        go_ret
        exact ⟨ret_bool HF.out.symm, HX3.out⟩
      | true =>
        have H2 := Lib.hid h2; clear h2
        have c3 : w3.cell? ⟨w.heap.size, 3, none⟩ = some q.nip.val := HB3.out.cell 3
        go_wp2_with fail
        clear c3
        refine (areAll_any 12 pRng _ _ _ q.nip.xs _ (HQ.out.nip.1.ext HX3.out) call_pRng (fun x hx w' => isRange_any x w' (HQ.out.nip.2 x hx))).mono ?_
        rintro e w4 ⟨rfl, hb4⟩
        have HX4 : Hid (Ext w w4) := HX3.out.tr hb4
        have HB4 : Hid (Blk w4 w.heap.size 24 q.cells) := HB3.out.ext hb4
        clear hb4
        cases h3 : (q.nip.xs.all pRng && decide (q.nip.xs.length ≤ 6)) with
        | false =>
          have HF : Hid (q.right = false) := by unfold Hid Pol.right areP; rw [h3]; simp
          clear h3
          go_wp2
          go_ret
          exact ⟨ret_bool HF.out.symm, HX4.out⟩
        | true =>
          have H3 := Lib.hid h3; clear h3
          have c4 : w4.cell? ⟨w.heap.size, 4, none⟩ = some q.em.val := HB4.out.cell 4
          go_wp2_with fail
          clear c4
          refine (areAll_any 13 pBox _ _ _ q.em.xs _ (HQ.out.em.1.ext HX4.out) call_pBox (fun x hx w' => IsMailbox_any x w' (HQ.out.em.2 x hx))).mono ?_
          rintro e w5 ⟨rfl, hb5⟩
          have HX5 : Hid (Ext w w5) := HX4.out.tr hb5
          have HB5 : Hid (Blk w5 w.heap.size 24 q.cells) := HB4.out.ext hb5
          clear hb5
          cases h4 : (q.em.xs.all pBox && decide (q.em.xs.length ≤ 6)) with
          | false =>
            have HF : Hid (q.right = false) := by unfold Hid Pol.right areP; rw [h4]; simp
            clear h4
            go_wp2
            go_ret
            exact ⟨ret_bool HF.out.symm, HX5.out⟩
          | true =>
            have H4 := Lib.hid h4; clear h4
            have c5 : w5.cell? ⟨w.heap.size, 5, none⟩ = some q.nem.val := HB5.out.cell 5
            go_wp2_with fail
            clear c5
            refine (areAll_any 13 pBox _ _ _ q.nem.xs _ (HQ.out.nem.1.ext HX5.out) call_pBox (fun x hx w' => IsMailbox_any x w' (HQ.out.nem.2 x hx))).mono ?_
            rintro e w6 ⟨rfl, hb6⟩
            have HX6 : Hid (Ext w w6) := HX5.out.tr hb6
            have HB6 : Hid (Blk w6 w.heap.size 24 q.cells) := HB5.out.ext hb6
            clear hb6
            cases h5 : (q.nem.xs.all pBox && decide (q.nem.xs.length ≤ 6)) with
            | false =>
              have HF : Hid (q.right = false) := by unfold Hid Pol.right areP; rw [h5]; simp
              clear h5
              go_wp2
              go_ret
              exact ⟨ret_bool HF.out.symm, HX6.out⟩
            | true =>
              have H5 := Lib.hid h5; clear h5
              have c6 : w6.cell? ⟨w.heap.size, 6, none⟩ = some q.uri.val := HB6.out.cell 6
              go_wp2_with fail
              clear c6
              refine (areAll_any 11 pDom _ _ _ q.uri.xs _ (HQ.out.uri.1.ext HX6.out) call_pDom (fun x hx w' => IsDomain_any x w' (HQ.out.uri.2 x hx))).mono ?_
              rintro e w7 ⟨rfl, hb7⟩
              have HX7 : Hid (Ext w w7) := HX6.out.tr hb7
              have HB7 : Hid (Blk w7 w.heap.size 24 q.cells) := HB6.out.ext hb7
              clear hb7
              cases h6 : (q.uri.xs.all pDom && decide (q.uri.xs.length ≤ 6)) with
              | false =>
                have HF : Hid (q.right = false) := by unfold Hid Pol.right areP; rw [h6]; simp
                clear h6
                go_wp2
                go_ret
                exact ⟨ret_bool HF.out.symm, HX7.out⟩
              | true =>
                have H6 := Lib.hid h6; clear h6
                have c7 : w7.cell? ⟨w.heap.size, 7, none⟩ = some q.nuri.val := HB7.out.cell 7
                go_wp2_with fail
                clear c7
                refine (areAll_any 11 pDom _ _ _ q.nuri.xs _ (HQ.out.nuri.1.ext HX7.out) call_pDom (fun x hx w' => IsDomain_any x w' (HQ.out.nuri.2 x hx))).mono ?_
                rintro e w8 ⟨rfl, hb8⟩
                have HX8 : Hid (Ext w w8) := HX7.out.tr hb8
                have HB8 : Hid (Blk w8 w.heap.size 24 q.cells) := HB7.out.ext hb8
                clear hb8
                cases h7 : (q.nuri.xs.all pDom && decide (q.nuri.xs.length ≤ 6)) with
                | false =>
                  have HF : Hid (q.right = false) := by unfold Hid Pol.right areP; rw [h7]; simp
                  clear h7
                  go_wp2
                  go_ret
                  exact ⟨ret_bool HF.out.symm, HX8.out⟩
                | true =>
                  have H7 := Lib.hid h7; clear h7
                  have c8 : w8.cell? ⟨w.heap.size, 8, none⟩ = some q.cn.val := HB8.out.cell 8
                  go_wp2_with fail
                  clear c8
                  refine (areAll_any 8 pNam _ _ _ q.cn.xs _ (HQ.out.cn.1.ext HX8.out) call_pNam (fun x hx w' => isName1_any x w' (HQ.out.cn.2 x hx))).mono ?_
                  rintro e w9 ⟨rfl, hb9⟩
                  have HX9 : Hid (Ext w w9) := HX8.out.tr hb9
                  have HB9 : Hid (Blk w9 w.heap.size 24 q.cells) := HB8.out.ext hb9
                  clear hb9
                  cases h8 : (q.cn.xs.all pNam && decide (q.cn.xs.length ≤ 6)) with
                  | false =>
                    have HF : Hid (q.right = false) := by unfold Hid Pol.right areP; rw [h8]; simp
                    clear h8
                    go_wp2
                    go_ret
                    exact ⟨ret_bool HF.out.symm, HX9.out⟩
                  | true =>
                    have H8 := Lib.hid h8; clear h8
                    have c9 : w9.cell? ⟨w.heap.size, 9, none⟩ = some q.ncn.val := HB9.out.cell 9
                    go_wp2_with fail
                    clear c9
                    refine (areAll_any 8 pNam _ _ _ q.ncn.xs _ (HQ.out.ncn.1.ext HX9.out) call_pNam (fun x hx w' => isName1_any x w' (HQ.out.ncn.2 x hx))).mono ?_
                    rintro e w10 ⟨rfl, hb10⟩
                    have HX10 : Hid (Ext w w10) := HX9.out.tr hb10
                    have HB10 : Hid (Blk w10 w.heap.size 24 q.cells) := HB9.out.ext hb10
                    clear hb10
                    cases h9 : (q.ncn.xs.all pNam && decide (q.ncn.xs.length ≤ 6)) with
                    | false =>
                      have HF : Hid (q.right = false) := by unfold Hid Pol.right areP; rw [h9]; simp
                      clear h9
                      go_wp2
                      go_ret
                      exact ⟨ret_bool HF.out.symm, HX10.out⟩
                    | true =>
                      have H9 := Lib.hid h9; clear h9
                      have c10 : w10.cell? ⟨w.heap.size, 10, none⟩ = some q.pr.val := HB10.out.cell 10
                      go_wp2_with fail
                      clear c10
                      refine (areAll_any 14 pPri _ _ _ q.pr.xs _ (HQ.out.pr.1.ext HX10.out) call_pPri (fun x hx w' => IsPrincipal_any x w' (HQ.out.pr.2 x hx))).mono ?_
                      rintro e w11 ⟨rfl, hb11⟩
                      have HX11 : Hid (Ext w w11) := HX10.out.tr hb11
                      have HB11 : Hid (Blk w11 w.heap.size 24 q.cells) := HB10.out.ext hb11
                      clear hb11
                      cases h10 : (q.pr.xs.all pPri && decide (q.pr.xs.length ≤ 6)) with
                      | false =>
                        have HF : Hid (q.right = false) := by unfold Hid Pol.right areP; rw [h10]; simp
                        clear h10
                        go_wp2
                        go_ret
                        exact ⟨ret_bool HF.out.symm, HX11.out⟩
                      | true =>
                        have H10 := Lib.hid h10; clear h10
                        have c11 : w11.cell? ⟨w.heap.size, 11, none⟩ = some q.npr.val := HB11.out.cell 11
                        go_wp2_with fail
                        clear c11
                        refine (areAll_any 14 pPri _ _ _ q.npr.xs _ (HQ.out.npr.1.ext HX11.out) call_pPri (fun x hx w' => IsPrincipal_any x w' (HQ.out.npr.2 x hx))).mono ?_
                        rintro e w12 ⟨rfl, hb12⟩
                        have HX12 : Hid (Ext w w12) := HX11.out.tr hb12
                        clear hb12
                        cases h11 : (q.npr.xs.all pPri && decide (q.npr.xs.length ≤ 6)) with
                        | false =>
                          have HF : Hid (q.right = false) := by unfold Hid Pol.right areP; rw [h11]; simp
                          clear h11
                          go_wp2
                          go_ret
                          exact ⟨ret_bool HF.out.symm, HX12.out⟩
                        | true =>
                          have H11 := Lib.hid h11; clear h11
                          have HT : Hid (q.right = true) := by unfold Hid Pol.right areP; rw [H0.out, H1.out, H2.out, H3.out, H4.out, H5.out, H6.out, H7.out, H8.out, H9.out, H10.out, H11.out]; rfl
                          go_wp2
                          go_ret
                          exact ⟨ret_bool HT.out.symm, HX12.out⟩
end Go.Proofs.YtedniebpabfglaaGreatDoor
