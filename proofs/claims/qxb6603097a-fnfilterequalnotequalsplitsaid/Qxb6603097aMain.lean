import Derived.Test.Qxb6603097aThree
namespace Go.Proofs.Qxb6603097a.filterWalks
open Go.ChangeShapes Go.WideShapes Go.ChangeAt Go.RowKit Go.Maps
set_option linter.unusedVariables false

set_option maxRecDepth 100000 in
set_option maxHeartbeats 4000000 in
theorem main_any (w : World) (h op role : Int) (key val : ByteArray) (ka : Option Addr) (kn kc : Nat) (a1 : Option Addr) (n1 cap1 : Nat) (a2 : Option Addr) (n2 cap2 : Nat) (hk : key.size ≤ maxLen) (hv : val.size ≤ maxLen) (hkn : kn ≤ maxLen)
    (hn1 : n1 ≤ maxLen) (hn2 : n2 ≤ maxLen) (gk : BytIn w ka kn) (g1 : HdrIn w a1 n1) (g2 : HdrIn w a2 n2) :
    Calls Try.prog 3 #[.int .u8 h, .string key, .string val, .int .u8 op, .int .u8 role, .slice ka kn kc, .slice a1 n1 cap1, .slice a2 n2 cap2] w fun e w' => e = .returned (.bool true) ∧ Below w.heap.size w w' := by
  go_enter Try.func3, Try.ntmps3
  go_wp2_with fail
  refine (zzb_any _ h op role key val ka kn kc a1 n1 cap1 a2 n2 cap2 hk hv hkn hn1 hn2 g1 g2).mono ?_
  rintro e w' ⟨b, rfl, hP, rfl⟩
  cases b
  · clear hP
    go_wp2
    go_ret
    exact ⟨rfl, Below.refl _ _⟩
  · obtain ⟨sk, sm1, sm2⟩ := hP rfl
    clear hP
    go_wp2_with fail
    refine (args_any _ key val ka kn kc a1 n1 cap1 a2 n2 cap2 hk hv hkn hn1 hn2 g1 g2).mono ?_
    rintro e w' ⟨r, rfl, r0, r1, rfl⟩
    by_cases hr : 1048576 < r
    · go_wp2
      go_ret
      exact ⟨rfl, Below.refl _ _⟩
    · go_wp2_with fail
      refine (cloneBytes_any _ ka kn kc sk gk).mono ?_
      rintro e w1 ⟨ka', kn', kc', rfl, hb1⟩
      have g1' := hdrIn_below g1 hb1
      have s1' := hdrSmall_below g1 sm1 hb1
      go_wp2_with fail
      refine (cloneHeaders_any _ a1 n1 cap1 g1' s1').mono ?_
      rintro e w2 ⟨x1, c1, rfl, u1, hb2⟩
      have hb12 : Below w.heap.size w w2 := hb1.trans (hb2.mono hb1.size)
      have g2' := hdrIn_below g2 hb12
      have s2' := hdrSmall_below g2 sm2 hb12
      go_wp2_with fail
      refine (cloneHeaders_any _ a2 n2 cap2 g2' s2').mono ?_
      rintro e w3 ⟨x2, c2, rfl, u2, hb3⟩
      obtain ⟨gg1, K1, A1, L1, C1, f1⟩ := hdr_funs (hdrUp_below u1 hb3)
      obtain ⟨gg2, K2, A2, L2, C2, f2⟩ := hdr_funs u2
      have hb13 : Below w.heap.size w w3 := hb12.trans (hb3.mono hb12.size)
      clear u1 u2 g1 g2 g1' g2' s1' s2' hb1 hb2 hb3 hb12 gk
      go_wp2_with fail
      refine (toMap_any _ x1 n1 c1 gg1 K1 A1 L1 C1 sm1.1 f1).mono ?_
      rintro e w4 ⟨m1, rfl, v1, hb4⟩
      have f1' := hdrFn_below f1 hb4
      have f2' := hdrFn_below f2 hb4
      clear f1 f2
      go_wp2_with fail
      refine (toMap_any _ x2 n2 c2 gg2 K2 A2 L2 C2 sm2.1 f2').mono ?_
      rintro e w5 ⟨m2, rfl, v2, hb5⟩
      have f1 := hdrFn_below f1' hb5
      have f2 := hdrFn_below f2' hb5
      have v1' := gives_below v1 hb5
      have hB : Below w.heap.size w w5 := hb13.trans ((hb4.trans (hb5.mono hb4.size)).mono hb13.size)
      clear f1' f2' v1 hb4 hb5 hb13
      go_wp2_with (first | (go_at_call 11; refine (makeRequest_any _ _ _ _ _ _ _ _).mono ?_; rintro e w' ⟨rfl, rfl⟩) | (go_at_call 13; refine (makeFilter_any _ _ _ _ _).mono ?_; rintro e w' ⟨rfl, rfl⟩))
      have hWB := w8_below w5 h op role key val ka' kn' kc' m1 m2
      have hBW := hB.trans (hWB.mono hB.size)
      have HR : Hid (Ready (W8 w5 h op role key val ka' kn' kc' m1 m2) w5.heap.size h op role key val ka' kn' kc' m1 m2) := ready_of w5 h op role key val ka' kn' kc' m1 m2
      have G1 := gives_below v1' hWB
      have G2 := gives_below v2 hWB
      have F1 := hdrFn_below f1 hWB
      have F2 := hdrFn_below f2 hWB
      clear v1' v2 f1 f2 hB hWB
      by_cases e3 : h = 3
      · subst e3
        clear G1 G2 F1 F2
        have T1 : Hid (Call14 _ _ op role ka' kn' kc' m1 m2 true) := call_svc (op := op) (role := role) (ka := ka') (kn := kn') (kc := kc') (m1 := m1) (m2 := m2) HR.out.1
        have T2 : Hid (Call14 _ _ op role ka' kn' kc' m1 m2 true) := call_svc (op := op) (role := role) (ka := ka') (kn := kn') (kc := kc') (m1 := m1) (m2 := m2) HR.out.2.1
        have T3 : Hid (Call14 _ _ op role ka' kn' kc' m1 m2 true) := call_svc (op := op) (role := role) (ka := ka') (kn := kn') (kc := kc') (m1 := m1) (m2 := m2) HR.out.2.2.1
        refine (T1.out _ (Below.refl _ _)).mono ?_
        rintro e X1 ⟨rfl, hx1⟩
        obtain ⟨p0, p1, p2, p3, p4⟩ := reqAt_below HR.out.2.2.2 hx1
        go_wp2_with fail
        refine (T2.out _ hx1).mono ?_
        rintro e X2 ⟨rfl, hx2⟩
        have hx12 := hx1.trans (hx2.mono hx1.size)
        clear p0 p1 p2 p3 p4
        obtain ⟨p0, p1, p2, p3, p4⟩ := reqAt_below HR.out.2.2.2 hx12
        go_wp2_with fail
        refine (T3.out _ hx12).mono ?_
        rintro e X3 ⟨rfl, hx3⟩
        have hx13 := hx12.trans (hx3.mono hx12.size)
        have HB : Hid (Below w.heap.size w X3) := hBW.trans (hx13.mono hBW.size)
        go_wp2
        go_ret
        exact ⟨rfl, HB.out⟩
      · by_cases e2 : h = 2
        · subst e2
          clear e3
          clear G2 F2
          obtain ⟨a, l, c, E, N, hq, hl, T1, T2, T3, hA⟩ := three_obj HR.out hk G1 F1
          have U1 : Hid (Call14 _ _ op role ka' kn' kc' m1 m2 E) := T1
          have U2 : Hid (Call14 _ _ op role ka' kn' kc' m1 m2 N) := T2
          have U3 : Hid (Call14 _ _ op role ka' kn' kc' m1 m2 false) := T3
          have HQ : Hid (look K1 A1 L1 C1 key n1 = (a, l, c)) := hq
          have HF : Hid (HdrFn (W8 w5 2 op role key val ka' kn' kc' m1 m2) x1 n1 gg1 K1 A1 L1 C1) := F1
          clear G1 F1 T1 T2 T3 hq
          rcases hA with ⟨rfl, rfl, rfl⟩ | ⟨rfl, rfl, rfl⟩ | ⟨rfl, rfl, rfl⟩ | ⟨hl2, rfl, rfl⟩ | ⟨hl2, rfl, rfl⟩ | ⟨hl2, rfl, rfl⟩
          · refine (U1.out _ (Below.refl _ _)).mono ?_
            rintro e X1 ⟨rfl, hx1⟩
            obtain ⟨p0, p1, p2, p3, p4⟩ := reqAt_below HR.out.2.2.2 hx1
            go_wp2_with fail
            refine (U2.out _ hx1).mono ?_
            rintro e X2 ⟨rfl, hx2⟩
            have hx12 := hx1.trans (hx2.mono hx1.size)
            clear p0 p1 p2 p3 p4
            obtain ⟨p0, p1, p2, p3, p4⟩ := reqAt_below HR.out.2.2.2 hx12
            go_wp2_with fail
            refine (U3.out _ hx12).mono ?_
            rintro e X3 ⟨rfl, hx3⟩
            have hx13 := hx12.trans (hx3.mono hx12.size)
            have HB : Hid (Below w.heap.size w X3) := hBW.trans (hx13.mono hBW.size)
            go_wp2_with fail
            refine (lookup_any X3 x1 n1 c1 gg1 K1 A1 L1 C1 key sm1.1 (hdrFn_below HF.out hx13)).mono ?_
            rw [HQ.out]
            rintro e w' ⟨rfl, rfl⟩
            go_wp2
            go_ret
            exact ⟨rfl, HB.out⟩
          · refine (U1.out _ (Below.refl _ _)).mono ?_
            rintro e X1 ⟨rfl, hx1⟩
            obtain ⟨p0, p1, p2, p3, p4⟩ := reqAt_below HR.out.2.2.2 hx1
            go_wp2_with fail
            refine (U2.out _ hx1).mono ?_
            rintro e X2 ⟨rfl, hx2⟩
            have hx12 := hx1.trans (hx2.mono hx1.size)
            clear p0 p1 p2 p3 p4
            obtain ⟨p0, p1, p2, p3, p4⟩ := reqAt_below HR.out.2.2.2 hx12
            go_wp2_with fail
            refine (U3.out _ hx12).mono ?_
            rintro e X3 ⟨rfl, hx3⟩
            have hx13 := hx12.trans (hx3.mono hx12.size)
            have HB : Hid (Below w.heap.size w X3) := hBW.trans (hx13.mono hBW.size)
            go_wp2_with fail
            refine (lookup_any X3 x1 n1 c1 gg1 K1 A1 L1 C1 key sm1.1 (hdrFn_below HF.out hx13)).mono ?_
            rw [HQ.out]
            rintro e w' ⟨rfl, rfl⟩
            go_wp2
            go_ret
            exact ⟨rfl, HB.out⟩
          · refine (U1.out _ (Below.refl _ _)).mono ?_
            rintro e X1 ⟨rfl, hx1⟩
            obtain ⟨p0, p1, p2, p3, p4⟩ := reqAt_below HR.out.2.2.2 hx1
            go_wp2_with fail
            refine (U2.out _ hx1).mono ?_
            rintro e X2 ⟨rfl, hx2⟩
            have hx12 := hx1.trans (hx2.mono hx1.size)
            clear p0 p1 p2 p3 p4
            obtain ⟨p0, p1, p2, p3, p4⟩ := reqAt_below HR.out.2.2.2 hx12
            go_wp2_with fail
            refine (U3.out _ hx12).mono ?_
            rintro e X3 ⟨rfl, hx3⟩
            have hx13 := hx12.trans (hx3.mono hx12.size)
            have HB : Hid (Below w.heap.size w X3) := hBW.trans (hx13.mono hBW.size)
            go_wp2_with fail
            refine (lookup_any X3 x1 n1 c1 gg1 K1 A1 L1 C1 key sm1.1 (hdrFn_below HF.out hx13)).mono ?_
            rw [HQ.out]
            rintro e w' ⟨rfl, rfl⟩
            go_wp2
            go_ret
            exact ⟨rfl, HB.out⟩
          · have z0 : ((l : Int) == 0) = false := by simp; omega
            have z1 : ((l : Int) == 1) = false := by simp; omega
            refine (U1.out _ (Below.refl _ _)).mono ?_
            rintro e X1 ⟨rfl, hx1⟩
            obtain ⟨p0, p1, p2, p3, p4⟩ := reqAt_below HR.out.2.2.2 hx1
            go_wp2_with fail
            refine (U2.out _ hx1).mono ?_
            rintro e X2 ⟨rfl, hx2⟩
            have hx12 := hx1.trans (hx2.mono hx1.size)
            clear p0 p1 p2 p3 p4
            obtain ⟨p0, p1, p2, p3, p4⟩ := reqAt_below HR.out.2.2.2 hx12
            go_wp2_with fail
            refine (U3.out _ hx12).mono ?_
            rintro e X3 ⟨rfl, hx3⟩
            have hx13 := hx12.trans (hx3.mono hx12.size)
            have HB : Hid (Below w.heap.size w X3) := hBW.trans (hx13.mono hBW.size)
            go_wp2_with fail
            refine (lookup_any X3 x1 n1 c1 gg1 K1 A1 L1 C1 key sm1.1 (hdrFn_below HF.out hx13)).mono ?_
            rw [HQ.out]
            rintro e w' ⟨rfl, rfl⟩
            go_wp2
            go_ret
            exact ⟨rfl, HB.out⟩
          · have z0 : ((l : Int) == 0) = false := by simp; omega
            have z1 : ((l : Int) == 1) = false := by simp; omega
            refine (U1.out _ (Below.refl _ _)).mono ?_
            rintro e X1 ⟨rfl, hx1⟩
            obtain ⟨p0, p1, p2, p3, p4⟩ := reqAt_below HR.out.2.2.2 hx1
            go_wp2_with fail
            refine (U2.out _ hx1).mono ?_
            rintro e X2 ⟨rfl, hx2⟩
            have hx12 := hx1.trans (hx2.mono hx1.size)
            clear p0 p1 p2 p3 p4
            obtain ⟨p0, p1, p2, p3, p4⟩ := reqAt_below HR.out.2.2.2 hx12
            go_wp2_with fail
            refine (U3.out _ hx12).mono ?_
            rintro e X3 ⟨rfl, hx3⟩
            have hx13 := hx12.trans (hx3.mono hx12.size)
            have HB : Hid (Below w.heap.size w X3) := hBW.trans (hx13.mono hBW.size)
            go_wp2_with fail
            refine (lookup_any X3 x1 n1 c1 gg1 K1 A1 L1 C1 key sm1.1 (hdrFn_below HF.out hx13)).mono ?_
            rw [HQ.out]
            rintro e w' ⟨rfl, rfl⟩
            go_wp2
            go_ret
            exact ⟨rfl, HB.out⟩
          · have z0 : ((l : Int) == 0) = false := by simp; omega
            have z1 : ((l : Int) == 1) = false := by simp; omega
            refine (U1.out _ (Below.refl _ _)).mono ?_
            rintro e X1 ⟨rfl, hx1⟩
            obtain ⟨p0, p1, p2, p3, p4⟩ := reqAt_below HR.out.2.2.2 hx1
            go_wp2_with fail
            refine (U2.out _ hx1).mono ?_
            rintro e X2 ⟨rfl, hx2⟩
            have hx12 := hx1.trans (hx2.mono hx1.size)
            clear p0 p1 p2 p3 p4
            obtain ⟨p0, p1, p2, p3, p4⟩ := reqAt_below HR.out.2.2.2 hx12
            go_wp2_with fail
            refine (U3.out _ hx12).mono ?_
            rintro e X3 ⟨rfl, hx3⟩
            have hx13 := hx12.trans (hx3.mono hx12.size)
            have HB : Hid (Below w.heap.size w X3) := hBW.trans (hx13.mono hBW.size)
            go_wp2_with fail
            refine (lookup_any X3 x1 n1 c1 gg1 K1 A1 L1 C1 key sm1.1 (hdrFn_below HF.out hx13)).mono ?_
            rw [HQ.out]
            rintro e w' ⟨rfl, rfl⟩
            go_wp2
            go_ret
            exact ⟨rfl, HB.out⟩
        · by_cases e1 : h = 1
          · subst e1
            clear e3 e2
            clear G1 F1
            obtain ⟨a, l, c, E, N, hq, hl, T1, T2, T3, hA⟩ := three_req HR.out hk G2 F2
            have U1 : Hid (Call14 _ _ op role ka' kn' kc' m1 m2 E) := T1
            have U2 : Hid (Call14 _ _ op role ka' kn' kc' m1 m2 N) := T2
            have U3 : Hid (Call14 _ _ op role ka' kn' kc' m1 m2 false) := T3
            have HQ : Hid (look K2 A2 L2 C2 key n2 = (a, l, c)) := hq
            have HF : Hid (HdrFn (W8 w5 1 op role key val ka' kn' kc' m1 m2) x2 n2 gg2 K2 A2 L2 C2) := F2
            clear G2 F2 T1 T2 T3 hq
            rcases hA with ⟨rfl, rfl, rfl⟩ | ⟨rfl, rfl, rfl⟩ | ⟨rfl, rfl, rfl⟩ | ⟨hl2, rfl, rfl⟩ | ⟨hl2, rfl, rfl⟩ | ⟨hl2, rfl, rfl⟩
            · refine (U1.out _ (Below.refl _ _)).mono ?_
              rintro e X1 ⟨rfl, hx1⟩
              obtain ⟨p0, p1, p2, p3, p4⟩ := reqAt_below HR.out.2.2.2 hx1
              go_wp2_with fail
              refine (U2.out _ hx1).mono ?_
              rintro e X2 ⟨rfl, hx2⟩
              have hx12 := hx1.trans (hx2.mono hx1.size)
              clear p0 p1 p2 p3 p4
              obtain ⟨p0, p1, p2, p3, p4⟩ := reqAt_below HR.out.2.2.2 hx12
              go_wp2_with fail
              refine (U3.out _ hx12).mono ?_
              rintro e X3 ⟨rfl, hx3⟩
              have hx13 := hx12.trans (hx3.mono hx12.size)
              have HB : Hid (Below w.heap.size w X3) := hBW.trans (hx13.mono hBW.size)
              go_wp2_with fail
              refine (lookup_any X3 x2 n2 c2 gg2 K2 A2 L2 C2 key sm2.1 (hdrFn_below HF.out hx13)).mono ?_
              rw [HQ.out]
              rintro e w' ⟨rfl, rfl⟩
              go_wp2
              go_ret
              exact ⟨rfl, HB.out⟩
            · refine (U1.out _ (Below.refl _ _)).mono ?_
              rintro e X1 ⟨rfl, hx1⟩
              obtain ⟨p0, p1, p2, p3, p4⟩ := reqAt_below HR.out.2.2.2 hx1
              go_wp2_with fail
              refine (U2.out _ hx1).mono ?_
              rintro e X2 ⟨rfl, hx2⟩
              have hx12 := hx1.trans (hx2.mono hx1.size)
              clear p0 p1 p2 p3 p4
              obtain ⟨p0, p1, p2, p3, p4⟩ := reqAt_below HR.out.2.2.2 hx12
              go_wp2_with fail
              refine (U3.out _ hx12).mono ?_
              rintro e X3 ⟨rfl, hx3⟩
              have hx13 := hx12.trans (hx3.mono hx12.size)
              have HB : Hid (Below w.heap.size w X3) := hBW.trans (hx13.mono hBW.size)
              go_wp2_with fail
              refine (lookup_any X3 x2 n2 c2 gg2 K2 A2 L2 C2 key sm2.1 (hdrFn_below HF.out hx13)).mono ?_
              rw [HQ.out]
              rintro e w' ⟨rfl, rfl⟩
              go_wp2
              go_ret
              exact ⟨rfl, HB.out⟩
            · refine (U1.out _ (Below.refl _ _)).mono ?_
              rintro e X1 ⟨rfl, hx1⟩
              obtain ⟨p0, p1, p2, p3, p4⟩ := reqAt_below HR.out.2.2.2 hx1
              go_wp2_with fail
              refine (U2.out _ hx1).mono ?_
              rintro e X2 ⟨rfl, hx2⟩
              have hx12 := hx1.trans (hx2.mono hx1.size)
              clear p0 p1 p2 p3 p4
              obtain ⟨p0, p1, p2, p3, p4⟩ := reqAt_below HR.out.2.2.2 hx12
              go_wp2_with fail
              refine (U3.out _ hx12).mono ?_
              rintro e X3 ⟨rfl, hx3⟩
              have hx13 := hx12.trans (hx3.mono hx12.size)
              have HB : Hid (Below w.heap.size w X3) := hBW.trans (hx13.mono hBW.size)
              go_wp2_with fail
              refine (lookup_any X3 x2 n2 c2 gg2 K2 A2 L2 C2 key sm2.1 (hdrFn_below HF.out hx13)).mono ?_
              rw [HQ.out]
              rintro e w' ⟨rfl, rfl⟩
              go_wp2
              go_ret
              exact ⟨rfl, HB.out⟩
            · have z0 : ((l : Int) == 0) = false := by simp; omega
              have z1 : ((l : Int) == 1) = false := by simp; omega
              refine (U1.out _ (Below.refl _ _)).mono ?_
              rintro e X1 ⟨rfl, hx1⟩
              obtain ⟨p0, p1, p2, p3, p4⟩ := reqAt_below HR.out.2.2.2 hx1
              go_wp2_with fail
              refine (U2.out _ hx1).mono ?_
              rintro e X2 ⟨rfl, hx2⟩
              have hx12 := hx1.trans (hx2.mono hx1.size)
              clear p0 p1 p2 p3 p4
              obtain ⟨p0, p1, p2, p3, p4⟩ := reqAt_below HR.out.2.2.2 hx12
              go_wp2_with fail
              refine (U3.out _ hx12).mono ?_
              rintro e X3 ⟨rfl, hx3⟩
              have hx13 := hx12.trans (hx3.mono hx12.size)
              have HB : Hid (Below w.heap.size w X3) := hBW.trans (hx13.mono hBW.size)
              go_wp2_with fail
              refine (lookup_any X3 x2 n2 c2 gg2 K2 A2 L2 C2 key sm2.1 (hdrFn_below HF.out hx13)).mono ?_
              rw [HQ.out]
              rintro e w' ⟨rfl, rfl⟩
              go_wp2
              go_ret
              exact ⟨rfl, HB.out⟩
            · have z0 : ((l : Int) == 0) = false := by simp; omega
              have z1 : ((l : Int) == 1) = false := by simp; omega
              refine (U1.out _ (Below.refl _ _)).mono ?_
              rintro e X1 ⟨rfl, hx1⟩
              obtain ⟨p0, p1, p2, p3, p4⟩ := reqAt_below HR.out.2.2.2 hx1
              go_wp2_with fail
              refine (U2.out _ hx1).mono ?_
              rintro e X2 ⟨rfl, hx2⟩
              have hx12 := hx1.trans (hx2.mono hx1.size)
              clear p0 p1 p2 p3 p4
              obtain ⟨p0, p1, p2, p3, p4⟩ := reqAt_below HR.out.2.2.2 hx12
              go_wp2_with fail
              refine (U3.out _ hx12).mono ?_
              rintro e X3 ⟨rfl, hx3⟩
              have hx13 := hx12.trans (hx3.mono hx12.size)
              have HB : Hid (Below w.heap.size w X3) := hBW.trans (hx13.mono hBW.size)
              go_wp2_with fail
              refine (lookup_any X3 x2 n2 c2 gg2 K2 A2 L2 C2 key sm2.1 (hdrFn_below HF.out hx13)).mono ?_
              rw [HQ.out]
              rintro e w' ⟨rfl, rfl⟩
              go_wp2
              go_ret
              exact ⟨rfl, HB.out⟩
            · have z0 : ((l : Int) == 0) = false := by simp; omega
              have z1 : ((l : Int) == 1) = false := by simp; omega
              refine (U1.out _ (Below.refl _ _)).mono ?_
              rintro e X1 ⟨rfl, hx1⟩
              obtain ⟨p0, p1, p2, p3, p4⟩ := reqAt_below HR.out.2.2.2 hx1
              go_wp2_with fail
              refine (U2.out _ hx1).mono ?_
              rintro e X2 ⟨rfl, hx2⟩
              have hx12 := hx1.trans (hx2.mono hx1.size)
              clear p0 p1 p2 p3 p4
              obtain ⟨p0, p1, p2, p3, p4⟩ := reqAt_below HR.out.2.2.2 hx12
              go_wp2_with fail
              refine (U3.out _ hx12).mono ?_
              rintro e X3 ⟨rfl, hx3⟩
              have hx13 := hx12.trans (hx3.mono hx12.size)
              have HB : Hid (Below w.heap.size w X3) := hBW.trans (hx13.mono hBW.size)
              go_wp2_with fail
              refine (lookup_any X3 x2 n2 c2 gg2 K2 A2 L2 C2 key sm2.1 (hdrFn_below HF.out hx13)).mono ?_
              rw [HQ.out]
              rintro e w' ⟨rfl, rfl⟩
              go_wp2
              go_ret
              exact ⟨rfl, HB.out⟩
          · have b1 : (h == 1) = false := by simpa using e1
            have b2 : (h == 2) = false := by simpa using e2
            have b3 : (h == 3) = false := by simpa using e3
            clear G1 G2 F1 F2 e1 e2 e3
            have T1 : Hid (Call14 _ _ op role ka' kn' kc' m1 m2 false) := call_oth (op := op) (role := role) (ka := ka') (kn := kn') (kc := kc') (m1 := m1) (m2 := m2) HR.out.1 b1 b2 b3
            have T2 : Hid (Call14 _ _ op role ka' kn' kc' m1 m2 false) := call_oth (op := op) (role := role) (ka := ka') (kn := kn') (kc := kc') (m1 := m1) (m2 := m2) HR.out.2.1 b1 b2 b3
            have T3 : Hid (Call14 _ _ op role ka' kn' kc' m1 m2 false) := call_oth (op := op) (role := role) (ka := ka') (kn := kn') (kc := kc') (m1 := m1) (m2 := m2) HR.out.2.2.1 b1 b2 b3
            refine (T1.out _ (Below.refl _ _)).mono ?_
            rintro e X1 ⟨rfl, hx1⟩
            obtain ⟨p0, p1, p2, p3, p4⟩ := reqAt_below HR.out.2.2.2 hx1
            go_wp2_with fail
            refine (T2.out _ hx1).mono ?_
            rintro e X2 ⟨rfl, hx2⟩
            have hx12 := hx1.trans (hx2.mono hx1.size)
            clear p0 p1 p2 p3 p4
            obtain ⟨p0, p1, p2, p3, p4⟩ := reqAt_below HR.out.2.2.2 hx12
            go_wp2_with fail
            refine (T3.out _ hx12).mono ?_
            rintro e X3 ⟨rfl, hx3⟩
            have hx13 := hx12.trans (hx3.mono hx12.size)
            have HB : Hid (Below w.heap.size w X3) := hBW.trans (hx13.mono hBW.size)
            go_wp2
            go_ret
            exact ⟨rfl, HB.out⟩
end Go.Proofs.Qxb6603097a.filterWalks
