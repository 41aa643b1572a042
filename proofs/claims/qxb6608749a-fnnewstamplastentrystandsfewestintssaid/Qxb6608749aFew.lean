/-
  FnNewStampLastEntryStandsFewestInts: the walk.
-/
import Derived.Test.Qxb6608749aFewA
import Derived.Shelf.SlSortCmp.QuietGrown
namespace Go.Proofs.Qxb6608749a.Law
open Go.RowKit Go.Shelf Go.Sort

set_option maxRecDepth 100000 in
set_option maxHeartbeats 8000000 in
theorem few_main (a : Option Addr) (n cap : Nat) (l : List (Int × Int)) (q : Int) (w : World) (hV : EntV w a n cap l)
    (c0 : n ≤ 4096) (c1 : 0 ≤ q) (hd : dom l = true) :
    Calls Try.prog 3 #[.slice a n cap, .int .i64 q] w fun e w' => e = .returned (.bool true) ∧ Below w.heap.size w w' := by
  have mixed : Try.prog.follows Departure.mixedOrders = true := by kernel_rfl
  have hZ := zz7_any a n cap q w
  rw [decide_eq_true (by omega)] at hZ
  have hD := dom_c a n cap l w hV.len hV.ent (by omega)
  rw [hd] at hD
  have p0 : (n : Int) ≤ 4096 := by omega
  have p1 : ¬ (q < 0) := by omega
  have HV : Aside (EntV w a n cap l) := hV
  have HD : Aside (dom l = true) := hd
  have HL : Hid (l.length = n) := hV.len
  have Hn : Hid (n ≤ 4096) := c0
  have HQ : Hid (0 ≤ q) := c1
  clear hV hd c0 c1
  go_enter Try.func3, Try.ntmps3
  go_upto_if 31 with (first | (go_at_call 7; refine hZ.mono ?_; rintro e w1 ⟨rfl, hw⟩; subst w1) | (go_at_call 8; refine hD.mono ?_; rintro e w1 ⟨rfl, hw⟩; subst w1))
  go_cut [0] (fun v wc => ∃ a' cap', v = .slice a' n cap' ∧ Aside (Ent wc a' l) ∧ Aside (Below w.heap.size w wc))
  case first =>
    cases a with
    | none =>
      obtain ⟨hn, hc⟩ := HV.out.nil rfl
      go_wp2
      go_meet
      exact ⟨none, cap, rfl, HV.out.ent, Below.refl _ _⟩
    | some A =>
      have hmk := fun W => run_mk22 W n n (Nat.le_refl _) (by have := Hn.out; omega)
      obtain ⟨W', hcp, hE, hB⟩ := copy_c w A n cap l HL.out HV.out.ent
      have HE : Aside _ := hE
      have HB : Aside _ := hB
      clear hE hB
      generalize madeCells #[Value.int .i64 0, .int .i64 0] (n * 2) = X at hmk hcp
      go_wp2
      go_meet
      exact ⟨_, n, rfl, HE.out, HB.out⟩
  case rest =>
    obtain ⟨a', cap', rfl, HE, HB⟩ := hcut
    have HWF : Aside (∀ x ∈ l, x.1 ≤ 9223372036854775807) := HV.out.wf
    clear hZ hD HV p1
    go_wp2_with fail
    refine (new_c a' n cap' l wc HL.out (by have := Hn.out; omega) HE.out HD.out HWF.out).mono ?_
    rintro e W1 ⟨sa, sn, sc, rfl, hH, hB1⟩
    have HBw : Aside (Below w.heap.size w (W1.alloc (.cells #[.slice sa sn sc] 27))) := HB.out.trans ((hB1.alloc hB1.size _).mono HB.out.size)
    have T : Aside (∀ Y, Below (W1.alloc (.cells #[.slice sa sn sc] 27)).heap.size (W1.alloc (.cells #[.slice sa sn sc] 27)) Y →
        Y.cell? ⟨W1.heap.size, 0, none⟩ = some (.slice sa sn sc) ∧ Holds Y sa sn sc l ∧ Ent Y a' l) := by
      intro Y hY
      exact ⟨(hY.cell (p := ⟨W1.heap.size, 0, none⟩) (by simp)).trans (by simp), (hH.later ((Below.refl _ W1).alloc (Nat.le_refl _) _)).later hY, (HE.out.below (hB1.alloc hB1.size _)).below hY⟩
    clear hH hB1 HE HB
    go_wp2
    obtain ⟨X1, hX1⟩ : ∃ X1, W1.alloc (.cells #[.slice sa sn sc] 27) = X1 := ⟨_, rfl⟩
    rw [hX1] at HBw T
    rw [hX1]
    generalize W1.heap.size = b6 at *
    clear hX1
    go_loopg [7] n (fun kx s wr => ∃ i : Nat, s = .int .i64 i ∧ i ≤ n ∧ n - i ≤ kx ∧ Aside (Below X1.heap.size X1 wr))
    case atStart => exact ⟨0, rfl, Nat.zero_le _, Nat.le_refl _, Below.refl _ _⟩
    case round =>
      obtain ⟨i, rfl, hin, hkx, HBr⟩ := hrel
      obtain ⟨e6, hHr, hEr⟩ := T.out wr HBr.out
      by_cases hlt : i < n
      · have hltz : (i : Int) < (n : Int) := by omega
        have HLT : Hid (i < n) := hlt
        obtain ⟨b, o, ha, d0, _⟩ := hEr.at i (by rw [HL.out]; exact hlt)
        have HQ1 : Hid (0 ≤ (ent l i).1) := dom_ent HD.out i (by rw [HL.out]; exact hlt)
        have HH : Aside (Holds wr sa sn sc l) := hHr
        subst ha
        generalize (ent l i).1 = x at *
        clear hlt hin hHr hEr
        go_wp2_with fail
        refine (at_c sa sn sc l x wr HH.out (by rw [HL.out]; have := Hn.out; omega) HQ1.out).mono ?_
        rintro e Y1 ⟨rfl, hY1⟩
        have HY1 : Aside (Below X1.heap.size X1 Y1) := HBr.out.trans (hY1.mono HBr.out.size)
        have HE1 : Aside (Ent Y1 (some ⟨b, o, none⟩) l) := (T.out Y1 HY1.out).2.2
        clear hY1 d0 e6 HH
        go_wp2_with fail
        refine (count_c (some ⟨b, o, none⟩) n cap' l x Y1 HL.out HE1.out (by have := Hn.out; omega)).mono ?_
        rintro e Y2 ⟨rfl, hw⟩
        subst Y2
        go_wp2
        go_roundg (n - (i + 1))
        case measure => have := HLT.out; omega
        case rel => exact ⟨i + 1, by go_num, HLT.out, Nat.le_refl _, HY1⟩
      · have hltz : ¬ ((i : Int) < (n : Int)) := by omega
        have HH : Aside (Holds wr sa sn sc l) := hHr
        clear hlt hin hkx hHr hEr
        go_wp2_with fail
        refine (at_c sa sn sc l q wr HH.out (by rw [HL.out]; have := Hn.out; omega) HQ.out).mono ?_
        rintro e Y1 ⟨rfl, hY1⟩
        have HY1 : Aside (Below X1.heap.size X1 Y1) := HBr.out.trans (hY1.mono HBr.out.size)
        have HE1 : Aside (Ent Y1 a' l) := (T.out Y1 HY1.out).2.2
        clear hY1 e6 HH
        go_wp2_with fail
        refine (count_c a' n cap' l q Y1 HL.out HE1.out (by have := Hn.out; omega)).mono ?_
        rintro e Y2 ⟨rfl, hw⟩
        subst Y2
        go_wp2
        clear hltz HBr HE1
        go_loopg [11, 9, 10] n (fun kx s t u wr => ∃ (i k : Nat) (h : Int), s = .int .i64 i ∧ t = .int .i64 k ∧ u = .int .i64 h ∧ i ≤ n ∧ n - i ≤ kx ∧ k ≤ i ∧ Hid (k = (keys l i).length) ∧ Hid (h = mx l i) ∧ Aside (Below X1.heap.size X1 wr))
        case atStart => exact ⟨0, 0, -1, rfl, rfl, rfl, Nat.zero_le _, Nat.le_refl _, Nat.le_refl _, rfl, rfl, HY1⟩
        case round =>
          clear HY1
          obtain ⟨i, k, h, rfl, rfl, rfl, hin, hkx, hki, HK, HM, HBr⟩ := hrel
          obtain ⟨e6, hHr, hEr⟩ := T.out wr HBr.out
          by_cases hlt : i < n
          · have hltz : (i : Int) < (n : Int) := by omega
            have hkz : (k : Int) ≤ 4096 := by have := Hn.out; omega
            have HLT : Hid (i < n) := hlt
            have HKI : Hid (k ≤ i) := hki
            have hC := isLast_any a' n cap' l i wr HL.out hEr (by have := Hn.out; omega) hlt
            have TT : Aside (∀ Y, Below wr.heap.size wr Y → Below X1.heap.size X1 Y) := fun Y hY => HBr.out.trans (hY.mono HBr.out.size)
            obtain ⟨b, o, ha, _, _⟩ := hEr.at i (by rw [HL.out]; exact hlt)
            obtain ⟨x, y, hxy⟩ : ∃ x y, ent l i = (x, y) := ⟨_, _, rfl⟩
            have HXY : Hid (ent l i = (x, y)) := hxy
            have TC : Aside (∀ Y, Below wr.heap.size wr Y → Y.cell? ⟨b, o + i * 2, none⟩ = some (.int .i64 x) ∧ Y.cell? ⟨b, o + i * 2 + 1, none⟩ = some (.int .i64 y)) := by
              intro Y hY
              obtain ⟨b', o', e, h0, h1⟩ := (T.out Y (TT.out Y hY)).2.2.at i (by rw [HL.out]; exact hlt)
              rw [ha] at e
              injection e with e
              injection e with ea eb _
              rw [ea, eb]
              rw [hxy] at h0 h1
              exact ⟨h0, h1⟩
            subst ha
            clear hlt hin hHr hEr e6 hxy hki
            cases hI : isL l i with
            | false =>
              have HKP : Hid (kept l i = false) := show kept l i = false by unfold kept; rw [hI]; rfl
              rw [hI] at hC
              clear hI
              go_wp2_with fail
              refine hC.mono ?_
              rintro e Y1 ⟨rfl, hY1⟩
              have HY1 : Aside (Below X1.heap.size X1 Y1) := TT.out Y1 hY1
              clear hY1 hC
              go_wp2
              go_roundg (n - (i + 1))
              case measure => have := HLT.out; omega
              case rel =>
                refine ⟨i + 1, k, h, by go_num, rfl, rfl, HLT.out, Nat.le_refl _, by have := HKI.out; omega, ?_, ?_, HY1⟩
                · show k = _; rw [keys, if_neg (by rw [HKP.out]; simp)]; exact HK.out
                · show h = _; rw [mx, if_neg (by rw [HKP.out]; simp)]; exact HM.out
            | true =>
              rw [hI] at hC
              have HI : Hid (isL l i = true) := hI
              clear hI
              by_cases hy : y = 0
              · have HKP : Hid (kept l i = false) := show kept l i = false by unfold kept; rw [HXY.out, hy]; simp
                subst hy
                go_wp2_with fail
                refine hC.mono ?_
                rintro e Y1 ⟨rfl, hY1⟩
                have HY1 : Aside (Below X1.heap.size X1 Y1) := TT.out Y1 hY1
                obtain ⟨t0, t1⟩ := TC.out Y1 hY1
                clear hY1 hC
                go_wp2
                go_roundg (n - (i + 1))
                case measure => have := HLT.out; omega
                case rel =>
                  refine ⟨i + 1, k, h, by go_num, rfl, rfl, HLT.out, Nat.le_refl _, by have := HKI.out; omega, ?_, ?_, HY1⟩
                  · show k = _; rw [keys, if_neg (by rw [HKP.out]; simp)]; exact HK.out
                  · show h = _; rw [mx, if_neg (by rw [HKP.out]; simp)]; exact HM.out
              · have HKP : Hid (kept l i = true) := kept_iff.2 ⟨HI.out, by rw [HXY.out]; exact hy⟩
                have hyb : (y == 0) = false := beq_eq_false_iff_ne.2 hy
                clear hy
                by_cases hxh : h < x
                · go_wp2_with fail
                  refine hC.mono ?_
                  rintro e Y1 ⟨rfl, hY1⟩
                  have HY1 : Aside (Below X1.heap.size X1 Y1) := TT.out Y1 hY1
                  obtain ⟨t0, t1⟩ := TC.out Y1 hY1
                  clear hY1 hC
                  go_wp2
                  go_roundg (n - (i + 1))
                  case measure => have := HLT.out; omega
                  case rel =>
                    refine ⟨i + 1, k + 1, x, by go_num, by go_num, rfl, HLT.out, Nat.le_refl _, by have := HKI.out; omega, ?_, ?_, HY1⟩
                    · show k + 1 = _; rw [keys, if_pos HKP.out, List.length_append, ← HK.out]; rfl
                    · show x = _; rw [mx, if_pos HKP.out, if_pos (by rw [← HM.out, HXY.out]; exact hxh), HXY.out]
                · go_wp2_with fail
                  refine hC.mono ?_
                  rintro e Y1 ⟨rfl, hY1⟩
                  have HY1 : Aside (Below X1.heap.size X1 Y1) := TT.out Y1 hY1
                  obtain ⟨t0, t1⟩ := TC.out Y1 hY1
                  clear hY1 hC
                  go_wp2
                  go_roundg (n - (i + 1))
                  case measure => have := HLT.out; omega
                  case rel =>
                    refine ⟨i + 1, k + 1, h, by go_num, by go_num, rfl, HLT.out, Nat.le_refl _, by have := HKI.out; omega, ?_, ?_, HY1⟩
                    · show k + 1 = _; rw [keys, if_pos HKP.out, List.length_append, ← HK.out]; rfl
                    · show h = _; rw [mx, if_pos HKP.out, if_neg (by rw [← HM.out, HXY.out]; show ¬ h < x; omega)]; exact HM.out
          · have hltz : ¬ ((i : Int) < (n : Int)) := by omega
            have ei : i = l.length := by have := HL.out; omega
            obtain ⟨P, hS, hP⟩ := hHr
            have hkP : k = P.length := by rw [HK.out, ei, keys_count hP]
            have hhP : h = high P := by rw [HM.out, ei, mx_high hP HD.out]
            have hPl : P.length ≤ 4096 := by have := hP.len; have := HL.out; have := Hn.out; omega
            have hh1 : -1 ≤ h ∧ h < 9223372036854775807 := by
              rw [hhP]
              unfold high
              split
              · omega
              · obtain ⟨x, hx, e⟩ := hP.mem (P.length - 1) (by omega)
                rw [e]
                have h1 := dom_at HD.out hx
                have h2 := HWF.out x hx
                omega
            have hkz : (k : Int) ≤ 4096 := by omega
            have HP : Aside (PairsOf l P) := hP
            have HKP : Hid (k = P.length) := hkP
            have HHP : Hid (h = high P) := hhP
            obtain ⟨hh2, hh3⟩ := hh1
            have TT : Aside (∀ Y, Below wr.heap.size wr Y → Below X1.heap.size X1 Y) := fun Y hY => HBr.out.trans (hY.mono HBr.out.size)
            have hdn := dense_any sa sn sc wr
            clear hlt hin hkx hki HK HM hP
            rcases hS with ⟨h0, hsv⟩ | ⟨g, h0, h1, hsv, hg, hR⟩ | ⟨g, N, h0, h1, h2, h3, hsv, hg, hcN⟩
            · injection hsv with ea eb ec
              subst ea eb ec
              have hk0 : k = 0 := by omega
              clear hkP hhP ei hPl hEr
              subst hk0
              go_wp2_with fail
              refine hdn.mono ?_
              rintro e Y1 ⟨rfl, hY1⟩
              have HY1 : Aside (Below X1.heap.size X1 Y1) := TT.out Y1 hY1
              have e6' := (T.out Y1 HY1.out).1
              clear hY1 hdn e6
              go_wp2_with fail
              refine (zzpairs_c none 0 0 (.slice none 0 0) Y1 pairs_zero).mono ?_
              rintro e Y2 ⟨rfl, hY2⟩
              have HY2 : Aside (Below X1.heap.size X1 Y2) := HY1.out.trans (hY2.mono HY1.out.size)
              clear hY2 e6'
              go_wp2
              go_ret
              exact ⟨rfl, HBw.out.trans (HY2.out.mono HBw.out.size)⟩
            · obtain ⟨N2, hN2⟩ : ∃ N2, N2 = 2 * P.length := ⟨_, rfl⟩
              rw [← hN2] at hsv
              injection hsv with ea eb ec
              subst ea eb ec
              have hkb : ((k : Int) == 0) = false := beq_eq_false_iff_ne.2 (by omega)
              have hlt2 : 2 * (k : Int) < h + 1 := by omega
              have hnb : ((sc : Int) != 2 * (k : Int)) = false := by simp; omega
              have hsc : (sc : Int) = 2 * (k : Int) := by omega
              have HSC : Hid ((sc : Int) = 2 * (k : Int)) := hsc
              have HR : Aside (PairRow wr g P) := hR
              have HG : Hid (g < wr.heap.size) := hg
              clear hkP hhP ei hPl hEr h0 h1 hN2 hR hg hsc
              go_wp2_with fail
              refine hdn.mono ?_
              rintro e Y1 ⟨rfl, hY1⟩
              have HY1 : Aside (Below X1.heap.size X1 Y1) := TT.out Y1 hY1
              have HW1 : Aside (Below wr.heap.size wr Y1) := hY1
              have e6' := (T.out Y1 HY1.out).1
              clear hY1 hdn e6
              go_wp2_with fail
              refine (zzpairs_c (some ⟨g, 0, none⟩) 0 sc (.slice (some ⟨g, 0, none⟩) sc sc) Y1 (pairs_sparse g sc)).mono ?_
              rintro e Y2 ⟨rfl, hY2⟩
              have HY2 : Aside (Below X1.heap.size X1 Y2) := HY1.out.trans (hY2.mono HY1.out.size)
              have HW2 : Aside (Below wr.heap.size wr Y2) := HW1.out.trans (hY2.mono HW1.out.size)
              have TP : Aside (∀ Y, Below Y2.heap.size Y2 Y → PairRow Y g P ∧ Ent Y a' l ∧ Below X1.heap.size X1 Y) := by
                intro Y hY
                have hZ := HW2.out.trans (hY.mono HW2.out.size)
                have hX := HY2.out.trans (hY.mono HY2.out.size)
                exact ⟨HR.out.later hZ HG.out, (T.out Y hX).2.2, hX⟩
              clear hY2 e6' HY1 HW1 HW2 HY2 HR HG TT HBr
              go_wp2
              go_loopg [14] k (fun kx s wr => ∃ j : Nat, s = .int .i64 j ∧ j ≤ k ∧ k - j ≤ kx ∧ Aside (Below Y2.heap.size Y2 wr))
              case atStart => exact ⟨0, rfl, Nat.zero_le _, Nat.le_refl _, Below.refl _ _⟩
              case round =>
                obtain ⟨j, rfl, hjk, hjx, HBz⟩ := hrel
                obtain ⟨hPz, hEz, _⟩ := TP.out wr HBz.out
                by_cases hlt : j < k
                · have hltz : (j : Int) < (k : Int) := by omega
                  have HLT : Hid (j < k) := hlt
                  have hjP : j < P.length := by have := HKP.out; omega
                  obtain ⟨m0, m1⟩ := hPz j hjP
                  have b0 : 2 * (j : Int) < (sc : Int) := by have := HSC.out; omega
                  have b1 : 2 * (j : Int) + 1 < (sc : Int) := by have := HSC.out; omega
                  have t0 : (2 * (j : Int)).toNat = 2 * j := by omega
                  have t1 : (2 * (j : Int) + 1).toNat = 2 * j + 1 := by omega
                  have hC := count_c a' n cap' l (ent P j).1 wr HL.out hEz (by have := Hn.out; omega)
                  have hlk : lastC l (ent P j).1 = (ent P j).2 := by rw [← HP.out.look]; exact look_at HP.out.up j hjP rfl
                  rw [hlk] at hC
                  have hyb : ((ent P j).2 == 0) = false := beq_eq_false_iff_ne.2 (HP.out.nz j hjP)
                  have hx0 : ¬ ((ent P j).1 < 0) := by
                    obtain ⟨x, hx, e⟩ := HP.out.mem j hjP
                    rw [e]
                    have := (dom_at HD.out hx).1
                    omega
                  have hjz : (j : Int) ≤ 4096 := by omega
                  by_cases hj0 : j = 0
                  · subst hj0
                    generalize (ent P 0).1 = x at *
                    generalize (ent P 0).2 = y at *
                    clear hlk hjP hPz hEz hlt hjk b0 b1 t0 t1
                    have b0 : (0 : Int) < (sc : Int) := by have := HSC.out; omega
                    have b1 : (1 : Int) < (sc : Int) := by have := HSC.out; omega
                    go_wp2_with (go_at_call 11; refine hC.mono ?_; rintro e Y3 ⟨rfl, hw⟩; subst Y3)
                    go_roundg (k - (0 + 1))
                    case measure => have := HLT.out; omega
                    case rel => exact ⟨0 + 1, by go_num, HLT.out, Nat.le_refl _, HBz⟩
                  · obtain ⟨j', hj'⟩ : ∃ j', j = j' + 1 := ⟨j - 1, by omega⟩
                    obtain ⟨m2, _⟩ := hPz j' (by omega)
                    have hup := HP.out.up j' j (by omega) hjP
                    have hge : ¬ ((ent P j).1 ≤ (ent P j').1) := by omega
                    have hj0z : (0 : Int) < (j : Int) := by omega
                    have e2 : 2 * (j : Int) - 2 = 2 * (j' : Int) := by omega
                    have t2 : (2 * (j' : Int)).toNat = 2 * j' := by omega
                    have b2 : 2 * (j' : Int) < (sc : Int) := by omega
                    generalize (ent P j).1 = x at *
                    generalize (ent P j).2 = y at *
                    generalize (ent P j').1 = x' at *
                    clear hlk hjP hPz hEz hlt hjk hup hj0 hj'
                    go_wp2_with (go_at_call 11; refine hC.mono ?_; rintro e Y3 ⟨rfl, hw⟩; subst Y3)
                    go_roundg (k - (j + 1))
                    case measure => have := HLT.out; omega
                    case rel => exact ⟨j + 1, by go_num, HLT.out, Nat.le_refl _, HBz⟩
                · have hltz : ¬ ((j : Int) < (k : Int)) := by omega
                  clear hlt hjk hjx hPz hEz
                  go_wp2
                  go_ret
                  exact ⟨rfl, HBw.out.trans ((TP.out wr HBz.out).2.2.mono HBw.out.size)⟩
            · injection hsv with ea eb ec
              subst ea eb ec
              have hkb : ((k : Int) == 0) = false := beq_eq_false_iff_ne.2 (by omega)
              have hlt2 : ¬ (2 * (k : Int) < h + 1) := by omega
              have hnb : ((sc : Int) != h + 1) = false := by simp; omega
              have hsz : (sc : Int) ≤ 8192 := by omega
              have hpz : (0 : Int) < (sc : Int) := by omega
              have HCN : Aside (∀ j : Nat, j < sc → wr.cell? ⟨g, j, none⟩ = some (.int .i64 (look P (j : Int)))) := hcN
              have HG : Hid (g < wr.heap.size) := hg
              clear hkP hhP ei hPl hEr h0 h1 h2 h3 hcN hg
              go_wp2_with fail
              refine hdn.mono ?_
              rintro e Y1 ⟨rfl, hY1⟩
              have HY1 : Aside (Below X1.heap.size X1 Y1) := TT.out Y1 hY1
              have HW1 : Aside (Below wr.heap.size wr Y1) := hY1
              have e6' := (T.out Y1 HY1.out).1
              clear hY1 hdn e6
              go_wp2_with fail
              refine (zzpairs_c (some ⟨g, 0, none⟩) sc sc (.slice none 0 0) Y1 (fun W => pairs_dense g sc sc W hpz)).mono ?_
              rintro e Y2 ⟨rfl, hY2⟩
              have HY2 : Aside (Below X1.heap.size X1 Y2) := HY1.out.trans (hY2.mono HY1.out.size)
              have HW2 : Aside (Below wr.heap.size wr Y2) := HW1.out.trans (hY2.mono HW1.out.size)
              have TP : Aside (∀ Y, Below Y2.heap.size Y2 Y → (∀ j : Nat, j < sc → Y.cell? ⟨g, j, none⟩ = some (.int .i64 (lastC l (j : Int)))) ∧ Ent Y a' l ∧ Below X1.heap.size X1 Y ∧ g < Y.heap.size) := by
                intro Y hY
                have hZ := HW2.out.trans (hY.mono HW2.out.size)
                have hX := HY2.out.trans (hY.mono HY2.out.size)
                refine ⟨fun j hj => ?_, (T.out Y hX).2.2, hX, Nat.lt_of_lt_of_le HG.out hZ.size⟩
                rw [← HP.out.look]
                exact (hZ.cell (p := ⟨g, j, none⟩) HG.out).trans (HCN.out j hj)
              clear hY2 e6' HY1 HW1 HW2 HY2 HCN HG TT HBr
              go_wp2
              go_loopg [17] sc (fun kx s wr => ∃ j : Nat, s = .int .i64 j ∧ j ≤ sc ∧ sc - j ≤ kx ∧ Aside (Below Y2.heap.size Y2 wr))
              case atStart => exact ⟨0, rfl, Nat.zero_le _, Nat.le_refl _, Below.refl _ _⟩
              case round =>
                obtain ⟨j, rfl, hjk, hjx, HBz⟩ := hrel
                obtain ⟨hPz, hEz, _, hgz⟩ := TP.out wr HBz.out
                by_cases hlt : j < sc
                · have hltz : (j : Int) < (sc : Int) := by omega
                  have HLT : Hid (j < sc) := hlt
                  have v0 := fun m os => cell_grown (a := ⟨g, j, none⟩) hgz (hPz j hlt) m os
                  have hcn := count_r a' n cap' l (j : Int) wr HL.out hEz (by have := Hn.out; omega)
                  clear hPz hEz hgz hlt hjk
                  go_wp2_with fail
                  go_quiet_grown (first | (go_at_call 11; refine Calls.grown_of (hcn _ _)))
                  go_wp2
                  go_roundg (sc - (j + 1))
                  case measure => have := HLT.out; omega
                  case rel => exact ⟨j + 1, by go_num, HLT.out, Nat.le_refl _, HBz.out.trans ((Gr.below ⟨nq, osq, rfl⟩).mono HBz.out.size)⟩
                · have hltz : ¬ ((j : Int) < (sc : Int)) := by omega
                  clear hlt hjk hjx hPz hEz hgz
                  go_wp2
                  go_ret
                  exact ⟨rfl, HBw.out.trans ((TP.out wr HBz.out).2.2.1.mono HBw.out.size)⟩

theorem few_any (a : Option Addr) (n cap : Nat) (l : List (Int × Int)) (q : Int) (w : World) (hV : EntV w a n cap l) :
    Calls Try.prog 3 #[.slice a n cap, .int .i64 q] w fun e w' => e = .returned (.bool true) ∧ Below w.heap.size w w' := by
  by_cases h : n ≤ 4096 ∧ 0 ≤ q ∧ dom l = true
  · obtain ⟨h1, h2, h3⟩ := h
    exact few_main a n cap l q w hV h1 h2 h3
  · exact few_early a n cap l q w hV h
#print axioms few_any
end Go.Proofs.Qxb6608749a.Law
