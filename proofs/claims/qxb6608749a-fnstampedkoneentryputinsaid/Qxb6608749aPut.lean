/-
  FnStampedKOneEntryPutIn: the walk.
-/
import Derived.Test.Qxb6608749aPutA
import Derived.Test.Qxb6608749aPutP
import Derived.Shelf.SlSortCmp.QuietGrown
namespace Go.Proofs.Qxb6608749a.Law
open Go.RowKit Go.Shelf Go.Sort

set_option maxRecDepth 100000 in
set_option maxHeartbeats 8000000 in
theorem put_main (a : Option Addr) (n cap : Nat) (l : List (Int × Int)) (i : Nat) (p c q : Int) (w : World) (hV : EntV w a n cap l)
    (c0 : n ≤ 4096) (c1 : i ≤ n) (c3 : 0 ≤ p) (c4 : p ≠ 9223372036854775807) (c4' : p ≤ 9223372036854775807) (c5 : 0 ≤ q) (hd : dom l = true) :
    Calls Try.prog 6 #[.slice a n cap, .int .i64 (i : Int), .int .i64 p, .int .i64 c, .int .i64 q] w fun e w' => e = .returned (.bool true) ∧ Below w.heap.size w w' := by
  have mixed : Try.prog.follows Departure.mixedOrders = true := by kernel_rfl
  obtain ⟨j0, hj, hy0, hy1, hy2⟩ := info_parts info29
  have hZ := zz19_any a n cap i p c q w
  rw [decide_eq_true (by omega)] at hZ
  have hD := dom_c a n cap l w hV.len hV.ent (by omega)
  rw [hd] at hD
  have p0 : (n : Int) ≤ 4096 := by omega
  have p1 : ¬ ((i : Int) < 0) := by omega
  have p2 : ¬ ((n : Int) < (i : Int)) := by omega
  have p3 : ¬ (p < 0) := by omega
  have p4 : (p == 9223372036854775807) = false := beq_eq_false_iff_ne.2 c4
  have p5 : ¬ (q < 0) := by omega
  have HV : Aside (EntV w a n cap l) := hV
  have HD : Aside (dom l = true) := hd
  have HL : Hid (l.length = n) := hV.len
  have Hn : Hid (n ≤ 4096) := c0
  have Hi : Hid (i ≤ n) := c1
  have HP : Hid (0 ≤ p) := c3
  have HQ : Hid (0 ≤ q) := c5
  have HP4 : Hid (p ≠ 9223372036854775807) := c4
  have HP5 : Hid (p ≤ 9223372036854775807) := c4'
  clear hV hd c0 c1 c3 c4 c4' c5
  go_enter Try.func6, Try.ntmps6
  go_upto_if 53 with (first | (go_at_call 19; refine hZ.mono ?_; rintro e w1 ⟨rfl, hw⟩; subst w1) | (go_at_call 8; refine hD.mono ?_; rintro e w1 ⟨rfl, hw⟩; subst w1))
  go_cut [0] (fun v wc => ∃ a' cap', v = .slice a' n cap' ∧ n ≤ cap' ∧ Aside (Ent wc a' l) ∧ Aside (Below w.heap.size w wc))
  case first =>
    clear hj hy0 hy1 hy2
    cases a with
    | none =>
      obtain ⟨hn, hc⟩ := HV.out.nil rfl
      go_wp2
      go_meet
      exact ⟨none, cap, rfl, HV.out.cap, HV.out.ent, Below.refl _ _⟩
    | some A =>
      have hmk := fun W => run_mk22 W n n (Nat.le_refl _) (by have := Hn.out; omega)
      obtain ⟨W', hcp, hE, hB⟩ := copy_c w A n cap l HL.out HV.out.ent
      have HE : Aside _ := hE
      have HB : Aside _ := hB
      clear hE hB
      generalize madeCells #[Value.int .i64 0, .int .i64 0] (n * 2) = X at hmk hcp
      go_wp2
      go_meet
      exact ⟨_, n, rfl, Nat.le_refl _, HE.out, HB.out⟩
  case rest =>
    obtain ⟨a', cap', rfl, hcap, HE, HB⟩ := hcut
    have HC : Hid (n ≤ cap') := hcap
    have HWF : Aside (∀ x ∈ l, x.1 ≤ 9223372036854775807) := HV.out.wf
    have hs2 := fun W => run_lo W a' n cap' i Hi.out
    have hmk : ∀ W, (Instr.makeSlice 22 (.int .i64 0) (.int .i64 ((n : Int) + 1))).run Try.prog W = .ok (.slice (some ⟨W.heap.size, 0, none⟩) 0 (n + 1)) (W.alloc (.cells (madeCells #[.int .i64 0, .int .i64 0] ((n + 1) * 2)) 29)) := fun W => by
      have h := run_mk22 W 0 (n + 1) (Nat.zero_le _) (by have := Hn.out; omega)
      rw [show ((n + 1 : Nat) : Int) = (n : Int) + 1 by omega] at h
      exact h
    have HOM : Aside ((wc.alloc (.cells (madeCells #[.int .i64 0, .int .i64 0] ((n + 1) * 2)) 29)).ownsRow wc.heap.size 29 2 (.slice (some ⟨wc.heap.size, 0, none⟩) 0 (n + 1)) 0 (flat (l.take 0))) := owns_made wc (n + 1) (by have := Hn.out; omega)
    generalize madeCells #[Value.int .i64 0, .int .i64 0] ((n + 1) * 2) = X at hmk HOM
    clear hZ hD HV p3 p4 p5 p1 p2 hcap
    go_wp2
    clear hmk
    go_loopg [13, 12] i (fun kx s v wr => ∃ k : Nat, s = .int .i64 k ∧ k ≤ i ∧ i - k ≤ kx ∧ Aside (Below wc.heap.size wc wr) ∧ Aside (wr.ownsRow wc.heap.size 29 2 v k (flat (l.take k))))
    case atStart => exact ⟨0, rfl, Nat.zero_le _, Nat.le_refl _, (Below.refl _ wc).alloc (Nat.le_refl _) _, HOM⟩
    case round =>
      clear HOM
      obtain ⟨k, rfl, hki, hkx, HBr, HO⟩ := hrel
      by_cases hlt : k < i
      · have hltz : (k : Int) < (i : Int) := by omega
        have hln : (k : Int) < (n : Int) := by have := Hi.out; omega
        obtain ⟨b, o, ha, d0, d1⟩ := (HE.out.below HBr.out).at k (by rw [HL.out]; have := Hi.out; omega)
        subst ha
        have HLT : Hid (k < i) := hlt
        have hT : Hid (l.take (k + 1) = l.take k ++ [ent l k]) := take_ent l k (by rw [HL.out]; have := Hi.out; omega)
        obtain ⟨x1, y1, hx⟩ : ∃ x1 y1, ent l k = (x1, y1) := ⟨_, _, rfl⟩
        have HX : Hid (ent l k = (x1, y1)) := hx
        rw [hx] at d0 d1
        simp only at d0 d1
        have hO := HO.out
        clear hx hlt hki
        go_wp2_with (at_builtin; refine wpList_append_own _ rfl _ _ 22 rfl wc.heap.size 29 j0 (.agg #[.int .i64 0, .int .i64 0]) 2 16 Try.underlying22 hj hy0 hy1 hy2 rfl (by decide) _ _ _ rfl (hO.alloc _) ⟨wr.heap.size, 0, none⟩ 1 1 [.int .i64 x1, .int .i64 y1] rfl rfl (cell_two_new _ _ _ _) (by simp [Value.oneCell']) (by have := Hn.out; have := Hi.out; unfold maxLen; omega) (by have := Hn.out; have := Hi.out; omega) (by have := HBr.out.size; simp; omega) ?_; intro v' w3 hown' hgrow _)
        go_roundg (i - (k + 1))
        case measure => have := HLT.out; omega
        case rel =>
          refine ⟨k + 1, by go_num, HLT.out, Nat.le_refl _, ?_, ?_⟩
          · exact (HBr.out.alloc HBr.out.size _).grown hgrow (by have := HBr.out.size; simp; omega) (own_base_le hO)
          · show World.ownsRow _ _ _ _ _ _ _
            rw [hT.out, flat_snoc, HX.out]
            exact hown'
      · have ek : k = i := by omega
        subst ek
        have hltz : ¬ ((k : Int) < (k : Int)) := by omega
        have hO := HO.out
        clear hlt hki hkx HO
        go_wp2_with (at_builtin; refine wpList_append_own _ rfl _ _ 22 rfl wc.heap.size 29 j0 (.agg #[.int .i64 0, .int .i64 0]) 2 16 Try.underlying22 hj hy0 hy1 hy2 rfl (by decide) _ _ _ rfl (hO.alloc _) ⟨wr.heap.size, 0, none⟩ 1 1 [.int .i64 p, .int .i64 c] rfl rfl (cell_two_new _ _ _ _) (by simp [Value.oneCell']) (by have := Hn.out; have := Hi.out; unfold maxLen; omega) (by have := Hn.out; have := Hi.out; omega) (by have := HBr.out.size; simp; omega) ?_; intro v' w3 hown' hgrow _)
        have HB3 : Aside (Below wc.heap.size wc w3) := (HBr.out.alloc HBr.out.size _).grown hgrow (by have := HBr.out.size; simp; omega) (own_base_le hO)
        have HO3 : Aside (w3.ownsRow wc.heap.size 29 2 v' (k + 1) (flat (putTo l k p c 0))) := by
          show World.ownsRow _ _ _ _ _ _ _
          rw [putTo_zero, flat_snoc]
          exact hown'
        clear hown' hgrow hO HBr
        go_loopg [14, 12] n (fun kx s v wr => ∃ t : Nat, s = .int .i64 ((k : Int) + (t : Int)) ∧ k + t ≤ n ∧ n - (k + t) ≤ kx ∧ Aside (Below wc.heap.size wc wr) ∧ Aside (wr.ownsRow wc.heap.size 29 2 v (k + 1 + t) (flat (putTo l k p c t))))
        case atStart => exact ⟨0, by simp, by have := Hi.out; omega, by omega, HB3, HO3⟩
        case round =>
          clear HB3 HO3
          obtain ⟨t, rfl, hki, hkx, HBr, HO⟩ := hrel
          by_cases hlt : k + t < n
          · have hltz : (k : Int) + (t : Int) < (n : Int) := by omega
            have et : ((k : Int) + (t : Int)).toNat = k + t := by omega
            obtain ⟨b, o, ha, d0, d1⟩ := (HE.out.below HBr.out).at (k + t) (by rw [HL.out]; exact hlt)
            subst ha
            have HLT : Hid (k + t < n) := hlt
            have hT : Hid (putTo l k p c (t + 1) = putTo l k p c t ++ [ent l (k + t)]) := putTo_succ l k t p c (by rw [HL.out]; exact hlt)
            obtain ⟨x1, y1, hx⟩ : ∃ x1 y1, ent l (k + t) = (x1, y1) := ⟨_, _, rfl⟩
            have HX : Hid (ent l (k + t) = (x1, y1)) := hx
            rw [hx] at d0 d1
            simp only at d0 d1
            have hO := HO.out
            clear hx hlt hki
            go_wp2_with (at_builtin; refine wpList_append_own _ rfl _ _ 22 rfl wc.heap.size 29 j0 (.agg #[.int .i64 0, .int .i64 0]) 2 16 Try.underlying22 hj hy0 hy1 hy2 rfl (by decide) _ _ _ rfl (hO.alloc _) ⟨wr.heap.size, 0, none⟩ 1 1 [.int .i64 x1, .int .i64 y1] rfl rfl (cell_two_new _ _ _ _) (by simp [Value.oneCell']) (by have := Hn.out; have := Hi.out; unfold maxLen; omega) (by have := Hn.out; have := Hi.out; omega) (by have := HBr.out.size; simp; omega) ?_; intro v' w3 hown' hgrow _)
            go_roundg (n - (k + (t + 1)))
            case measure => have := HLT.out; omega
            case rel =>
              refine ⟨t + 1, by go_num, HLT.out, Nat.le_refl _, ?_, ?_⟩
              · exact (HBr.out.alloc HBr.out.size _).grown hgrow (by have := HBr.out.size; simp; omega) (own_base_le hO)
              · show World.ownsRow _ _ _ _ _ _ _
                rw [hT.out, flat_snoc, HX.out]
                exact hown'
          · have et : k + t = n := by omega
            have hltz : ¬ ((k : Int) + (t : Int) < (n : Int)) := by omega
            have hpl : (put l k p c).length = n + 1 := by rw [put_length l k p c (by rw [HL.out]; omega), HL.out]
            have hO := HO.out
            rw [putTo_all l k t p c (by rw [HL.out]; omega), show k + 1 + t = n + 1 by omega, ← hpl] at hO
            obtain ⟨a2, cap2, hv, hE2⟩ := ent_of_owns hO (by omega)
            rw [hpl] at hv
            subst hv
            have HPL : Hid ((put l k p c).length = n + 1) := hpl
            have HE2 : Aside (Ent wr a2 (put l k p c)) := hE2
            have HEr : Aside (Ent wr a' l) := HE.out.below HBr.out
            have HBw : Aside (Below w.heap.size w wr) := HB.out.trans (HBr.out.mono HB.out.size)
            clear hO hpl hE2 hlt hki hkx et HO HE HB HBr hj hy0 hy1 hy2
            go_wp2_with fail
            refine (new_c a' n cap' l wr HL.out (by have := Hn.out; omega) HEr.out HD.out HWF.out).mono ?_
            rintro e W1 ⟨sa, sn, sc, rfl, hH1, hB1⟩
            have hb1 : Below wr.heap.size wr (W1.alloc (.cells #[.slice sa sn sc] 27)) := hB1.alloc hB1.size _
            have HB1 : Aside (Below wr.heap.size wr (W1.alloc (.cells #[.slice sa sn sc] 27))) := hb1
            have HH1 : Aside (Holds (W1.alloc (.cells #[.slice sa sn sc] 27)) sa sn sc l) := hH1.later ((Below.refl _ W1).alloc (Nat.le_refl _) _)
            have Hc1 : Hid ((W1.alloc (.cells #[.slice sa sn sc] 27)).cell? ⟨W1.heap.size, 0, none⟩ = some (.slice sa sn sc)) := show _ = _ by simp
            have Hl1 : Hid (W1.heap.size < (W1.alloc (.cells #[.slice sa sn sc] 27)).heap.size) := show _ < _ by simp
            clear hB1 hb1 hH1
            go_wp2_with fail
            generalize W1.alloc (.cells #[.slice sa sn sc] 27) = X1 at *
            generalize W1.heap.size = b15 at *
            refine (new_c a2 (n + 1) cap2 (put l k p c) X1 HPL.out (by have := Hn.out; omega) (HE2.out.below HB1.out) (dom_put HD.out k p c HP.out HP4.out) (le_put HWF.out k p c HP5.out)).mono ?_
            rintro e W2 ⟨sb, tn, tc, rfl, hH2, hB2⟩
            have hb2 : Below X1.heap.size X1 (W2.alloc (.cells #[.slice sb tn tc] 27)) := hB2.alloc hB2.size _
            have HBw2 : Aside (Below w.heap.size w (W2.alloc (.cells #[.slice sb tn tc] 27))) := HBw.out.trans ((HB1.out.trans (hb2.mono HB1.out.size)).mono HBw.out.size)
            have T : Aside (∀ Y, Below (W2.alloc (.cells #[.slice sb tn tc] 27)).heap.size (W2.alloc (.cells #[.slice sb tn tc] 27)) Y →
                Y.cell? ⟨b15, 0, none⟩ = some (.slice sa sn sc) ∧ Y.cell? ⟨W2.heap.size, 0, none⟩ = some (.slice sb tn tc) ∧ Holds Y sa sn sc l ∧ Holds Y sb tn tc (put l k p c) ∧ Ent Y a' l) := by
              intro Y hY
              have hZ : Below X1.heap.size X1 Y := hb2.trans (hY.mono hb2.size)
              exact ⟨(hZ.cell (p := ⟨b15, 0, none⟩) Hl1.out).trans Hc1.out, (hY.cell (p := ⟨W2.heap.size, 0, none⟩) (by simp)).trans (by simp), HH1.out.later hZ,
                (hH2.later ((Below.refl _ W2).alloc (Nat.le_refl _) _)).later hY, (HEr.out.below HB1.out).below hZ⟩
            clear hb2 hB2 hH2 HB1 HH1 Hc1 Hl1 HBw HEr HE2
            go_upto_if 106 with (go_at_call 16; refine (names_c (dropA a' cap' k) (n - k) (cap' - k) (l.drop k) p _ (by rw [List.length_drop, HL.out]) ((T.out _ (Below.refl _ _)).2.2.2.2.drop cap' k (by rw [HL.out]; exact HC.out)) (by have := Hn.out; omega)).mono ?_; rintro e Y ⟨rfl, hw⟩; subst Y)
            obtain ⟨X2, hX2⟩ : ∃ X2, W2.alloc (.cells #[.slice sb tn tc] 27) = X2 := ⟨_, rfl⟩
            rw [hX2] at HBw2 T
            rw [hX2]
            generalize W2.heap.size = b16 at *
            clear hX2
            go_cut [17] (fun v wq => v = .int .i64 (lastC (put l k p c) p) ∧ Aside (Below X2.heap.size X2 wq))
            case first =>
              by_cases hnm : nm (l.drop k) p = true
              · have HPA : Hid (lastC (put l k p c) p = lastC (l.drop k) p) := by show _ = _; rw [put_at, if_pos hnm]
                rw [hnm]
                go_wp2_with (go_at_call 11; refine (count_c (dropA a' cap' k) (n - k) (cap' - k) (l.drop k) p X2 (by rw [List.length_drop, HL.out]) ((T.out _ (Below.refl _ _)).2.2.2.2.drop cap' k (by rw [HL.out]; exact HC.out)) (by have := Hn.out; omega)).mono ?_; rintro e Y ⟨rfl, hw⟩; subst Y)
                go_meet
                exact ⟨by rw [HPA.out], Below.refl _ _⟩
              · have HPA : Hid (lastC (put l k p c) p = c) := by show _ = _; rw [put_at, if_neg hnm]
                have hnf : nm (l.drop k) p = false := by simpa using hnm
                rw [hnf]
                clear hnm hnf
                go_wp2
                go_meet
                exact ⟨by rw [HPA.out], Below.refl _ _⟩
            case rest =>
              obtain ⟨rfl, HBq⟩ := hcut
              obtain ⟨f15, f16, hHa, hHb, _⟩ := T.out wc HBq.out
              have HHb : Aside (Holds wc sb tn tc (put l k p c)) := hHb
              clear hHa hHb
              go_wp2_with fail
              refine (k_c 0 { data := #[] } 0 { data := #[] } { data := #[] } 0 0 sb tn tc (put l k p c) p _ (HHb.out.later ((Below.refl _ wc).alloc (Nat.le_refl _) _)) (by rw [HPL.out]; have := Hn.out; omega) HP.out).mono ?_
              rintro e Y1 ⟨rfl, hY1⟩
              have HY1 : Aside (Below X2.heap.size X2 Y1) := HBq.out.trans ((((Below.refl _ wc).alloc (Nat.le_refl _) _).trans (hY1.mono (by simp))).mono HBq.out.size)
              clear f15 f16 HHb hY1
              by_cases hqp : q = p
              · have hqb : (q == p) = true := beq_iff_eq.2 hqp
                clear hqp
                go_wp2
                go_ret
                exact ⟨rfl, HBw2.out.trans (HY1.out.mono HBw2.out.size)⟩
              · have hqb : (q == p) = false := beq_eq_false_iff_ne.2 hqp
                have HQO : Hid (lastC (put l k p c) q = lastC l q) := put_other l k p c q hqp
                have f16 := (T.out Y1 HY1.out).2.1
                have f15 := fun o => (T.out (Y1.alloc o) (HY1.out.alloc HY1.out.size o)).1
                clear hqp
                go_wp2_with fail
                have AL : ∀ (A : World) (o : Obj), Below A.heap.size A (A.alloc o) := fun A o => (Below.refl _ A).alloc (Nat.le_refl _) o
                have hBV : Below X2.heap.size X2 ((Y1.alloc (.cells #[.int .i64 0, .string { data := #[] }, .int .u8 0, .string { data := #[] }, .string { data := #[] }, .int .i64 0, .int .i64 0, .int .i64 q, .slice sb tn tc] 39)).alloc (.cells #[.int .i64 0, .string { data := #[] }, .int .u8 0, .string { data := #[] }, .string { data := #[] }, .int .i64 0, .int .i64 0, .int .i64 q, .slice sa sn sc] 39)) := (HY1.out.alloc HY1.out.size _).alloc (by have := HY1.out.size; simp; omega) _
                obtain ⟨V, hV'⟩ : ∃ V, (Y1.alloc (.cells #[.int .i64 0, .string { data := #[] }, .int .u8 0, .string { data := #[] }, .string { data := #[] }, .int .i64 0, .int .i64 0, .int .i64 q, .slice sb tn tc] 39)).alloc (.cells #[.int .i64 0, .string { data := #[] }, .int .u8 0, .string { data := #[] }, .string { data := #[] }, .int .i64 0, .int .i64 0, .int .i64 q, .slice sa sn sc] 39) = V := ⟨_, rfl⟩
                obtain ⟨bb, hbb⟩ : ∃ bb, Y1.heap.size = bb := ⟨_, rfl⟩
                have hbV : bb < V.heap.size := by rw [← hV', ← hbb]; simp; omega
                have hbV1 : bb + 1 < V.heap.size := by rw [← hV', ← hbb]; simp
                have v0 : ∀ m os, (grow (V.drewN m) os).cell? ⟨bb, 0, none⟩ = some (.int .i64 0) := fun m os => cell_grown hbV (by rw [← hV', (AL (Y1.alloc (.cells #[.int .i64 0, .string { data := #[] }, .int .u8 0, .string { data := #[] }, .string { data := #[] }, .int .i64 0, .int .i64 0, .int .i64 q, .slice sb tn tc] 39)) (.cells #[.int .i64 0, .string { data := #[] }, .int .u8 0, .string { data := #[] }, .string { data := #[] }, .int .i64 0, .int .i64 0, .int .i64 q, .slice sa sn sc] 39)).cell (p := ⟨bb, 0, none⟩) (by rw [← hbb]; simp)]; simp [← hbb]) m os
                have v1 : ∀ m os, (grow (V.drewN m) os).cell? ⟨bb, 1, none⟩ = some (.string { data := #[] }) := fun m os => cell_grown hbV (by rw [← hV', (AL (Y1.alloc (.cells #[.int .i64 0, .string { data := #[] }, .int .u8 0, .string { data := #[] }, .string { data := #[] }, .int .i64 0, .int .i64 0, .int .i64 q, .slice sb tn tc] 39)) (.cells #[.int .i64 0, .string { data := #[] }, .int .u8 0, .string { data := #[] }, .string { data := #[] }, .int .i64 0, .int .i64 0, .int .i64 q, .slice sa sn sc] 39)).cell (p := ⟨bb, 1, none⟩) (by rw [← hbb]; simp)]; simp [← hbb]) m os
                have v2 : ∀ m os, (grow (V.drewN m) os).cell? ⟨bb, 2, none⟩ = some (.int .u8 0) := fun m os => cell_grown hbV (by rw [← hV', (AL (Y1.alloc (.cells #[.int .i64 0, .string { data := #[] }, .int .u8 0, .string { data := #[] }, .string { data := #[] }, .int .i64 0, .int .i64 0, .int .i64 q, .slice sb tn tc] 39)) (.cells #[.int .i64 0, .string { data := #[] }, .int .u8 0, .string { data := #[] }, .string { data := #[] }, .int .i64 0, .int .i64 0, .int .i64 q, .slice sa sn sc] 39)).cell (p := ⟨bb, 2, none⟩) (by rw [← hbb]; simp)]; simp [← hbb]) m os
                have v3 : ∀ m os, (grow (V.drewN m) os).cell? ⟨bb, 3, none⟩ = some (.string { data := #[] }) := fun m os => cell_grown hbV (by rw [← hV', (AL (Y1.alloc (.cells #[.int .i64 0, .string { data := #[] }, .int .u8 0, .string { data := #[] }, .string { data := #[] }, .int .i64 0, .int .i64 0, .int .i64 q, .slice sb tn tc] 39)) (.cells #[.int .i64 0, .string { data := #[] }, .int .u8 0, .string { data := #[] }, .string { data := #[] }, .int .i64 0, .int .i64 0, .int .i64 q, .slice sa sn sc] 39)).cell (p := ⟨bb, 3, none⟩) (by rw [← hbb]; simp)]; simp [← hbb]) m os
                have v4 : ∀ m os, (grow (V.drewN m) os).cell? ⟨bb, 4, none⟩ = some (.string { data := #[] }) := fun m os => cell_grown hbV (by rw [← hV', (AL (Y1.alloc (.cells #[.int .i64 0, .string { data := #[] }, .int .u8 0, .string { data := #[] }, .string { data := #[] }, .int .i64 0, .int .i64 0, .int .i64 q, .slice sb tn tc] 39)) (.cells #[.int .i64 0, .string { data := #[] }, .int .u8 0, .string { data := #[] }, .string { data := #[] }, .int .i64 0, .int .i64 0, .int .i64 q, .slice sa sn sc] 39)).cell (p := ⟨bb, 4, none⟩) (by rw [← hbb]; simp)]; simp [← hbb]) m os
                have v5 : ∀ m os, (grow (V.drewN m) os).cell? ⟨bb, 5, none⟩ = some (.int .i64 0) := fun m os => cell_grown hbV (by rw [← hV', (AL (Y1.alloc (.cells #[.int .i64 0, .string { data := #[] }, .int .u8 0, .string { data := #[] }, .string { data := #[] }, .int .i64 0, .int .i64 0, .int .i64 q, .slice sb tn tc] 39)) (.cells #[.int .i64 0, .string { data := #[] }, .int .u8 0, .string { data := #[] }, .string { data := #[] }, .int .i64 0, .int .i64 0, .int .i64 q, .slice sa sn sc] 39)).cell (p := ⟨bb, 5, none⟩) (by rw [← hbb]; simp)]; simp [← hbb]) m os
                have v6 : ∀ m os, (grow (V.drewN m) os).cell? ⟨bb, 6, none⟩ = some (.int .i64 0) := fun m os => cell_grown hbV (by rw [← hV', (AL (Y1.alloc (.cells #[.int .i64 0, .string { data := #[] }, .int .u8 0, .string { data := #[] }, .string { data := #[] }, .int .i64 0, .int .i64 0, .int .i64 q, .slice sb tn tc] 39)) (.cells #[.int .i64 0, .string { data := #[] }, .int .u8 0, .string { data := #[] }, .string { data := #[] }, .int .i64 0, .int .i64 0, .int .i64 q, .slice sa sn sc] 39)).cell (p := ⟨bb, 6, none⟩) (by rw [← hbb]; simp)]; simp [← hbb]) m os
                have v7 : ∀ m os, (grow (V.drewN m) os).cell? ⟨bb, 7, none⟩ = some (.int .i64 q) := fun m os => cell_grown hbV (by rw [← hV', (AL (Y1.alloc (.cells #[.int .i64 0, .string { data := #[] }, .int .u8 0, .string { data := #[] }, .string { data := #[] }, .int .i64 0, .int .i64 0, .int .i64 q, .slice sb tn tc] 39)) (.cells #[.int .i64 0, .string { data := #[] }, .int .u8 0, .string { data := #[] }, .string { data := #[] }, .int .i64 0, .int .i64 0, .int .i64 q, .slice sa sn sc] 39)).cell (p := ⟨bb, 7, none⟩) (by rw [← hbb]; simp)]; simp [← hbb]) m os
                have v8 : ∀ m os, (grow (V.drewN m) os).cell? ⟨bb, 8, none⟩ = some (.slice sb tn tc) := fun m os => cell_grown hbV (by rw [← hV', (AL (Y1.alloc (.cells #[.int .i64 0, .string { data := #[] }, .int .u8 0, .string { data := #[] }, .string { data := #[] }, .int .i64 0, .int .i64 0, .int .i64 q, .slice sb tn tc] 39)) (.cells #[.int .i64 0, .string { data := #[] }, .int .u8 0, .string { data := #[] }, .string { data := #[] }, .int .i64 0, .int .i64 0, .int .i64 q, .slice sa sn sc] 39)).cell (p := ⟨bb, 8, none⟩) (by rw [← hbb]; simp)]; simp [← hbb]) m os
                have u0' : ∀ m os, (grow (V.drewN m) os).cell? ⟨bb + 1, 0, none⟩ = some (.int .i64 0) := fun m os => cell_grown hbV1 (by rw [← hV', show bb + 1 = (Y1.alloc (.cells #[.int .i64 0, .string { data := #[] }, .int .u8 0, .string { data := #[] }, .string { data := #[] }, .int .i64 0, .int .i64 0, .int .i64 q, .slice sb tn tc] 39)).heap.size by rw [← hbb]; simp]; simp) m os
                have u1' : ∀ m os, (grow (V.drewN m) os).cell? ⟨bb + 1, 1, none⟩ = some (.string { data := #[] }) := fun m os => cell_grown hbV1 (by rw [← hV', show bb + 1 = (Y1.alloc (.cells #[.int .i64 0, .string { data := #[] }, .int .u8 0, .string { data := #[] }, .string { data := #[] }, .int .i64 0, .int .i64 0, .int .i64 q, .slice sb tn tc] 39)).heap.size by rw [← hbb]; simp]; simp) m os
                have u2' : ∀ m os, (grow (V.drewN m) os).cell? ⟨bb + 1, 2, none⟩ = some (.int .u8 0) := fun m os => cell_grown hbV1 (by rw [← hV', show bb + 1 = (Y1.alloc (.cells #[.int .i64 0, .string { data := #[] }, .int .u8 0, .string { data := #[] }, .string { data := #[] }, .int .i64 0, .int .i64 0, .int .i64 q, .slice sb tn tc] 39)).heap.size by rw [← hbb]; simp]; simp) m os
                have u3' : ∀ m os, (grow (V.drewN m) os).cell? ⟨bb + 1, 3, none⟩ = some (.string { data := #[] }) := fun m os => cell_grown hbV1 (by rw [← hV', show bb + 1 = (Y1.alloc (.cells #[.int .i64 0, .string { data := #[] }, .int .u8 0, .string { data := #[] }, .string { data := #[] }, .int .i64 0, .int .i64 0, .int .i64 q, .slice sb tn tc] 39)).heap.size by rw [← hbb]; simp]; simp) m os
                have u4' : ∀ m os, (grow (V.drewN m) os).cell? ⟨bb + 1, 4, none⟩ = some (.string { data := #[] }) := fun m os => cell_grown hbV1 (by rw [← hV', show bb + 1 = (Y1.alloc (.cells #[.int .i64 0, .string { data := #[] }, .int .u8 0, .string { data := #[] }, .string { data := #[] }, .int .i64 0, .int .i64 0, .int .i64 q, .slice sb tn tc] 39)).heap.size by rw [← hbb]; simp]; simp) m os
                have u5' : ∀ m os, (grow (V.drewN m) os).cell? ⟨bb + 1, 5, none⟩ = some (.int .i64 0) := fun m os => cell_grown hbV1 (by rw [← hV', show bb + 1 = (Y1.alloc (.cells #[.int .i64 0, .string { data := #[] }, .int .u8 0, .string { data := #[] }, .string { data := #[] }, .int .i64 0, .int .i64 0, .int .i64 q, .slice sb tn tc] 39)).heap.size by rw [← hbb]; simp]; simp) m os
                have u6' : ∀ m os, (grow (V.drewN m) os).cell? ⟨bb + 1, 6, none⟩ = some (.int .i64 0) := fun m os => cell_grown hbV1 (by rw [← hV', show bb + 1 = (Y1.alloc (.cells #[.int .i64 0, .string { data := #[] }, .int .u8 0, .string { data := #[] }, .string { data := #[] }, .int .i64 0, .int .i64 0, .int .i64 q, .slice sb tn tc] 39)).heap.size by rw [← hbb]; simp]; simp) m os
                have u7' : ∀ m os, (grow (V.drewN m) os).cell? ⟨bb + 1, 7, none⟩ = some (.int .i64 q) := fun m os => cell_grown hbV1 (by rw [← hV', show bb + 1 = (Y1.alloc (.cells #[.int .i64 0, .string { data := #[] }, .int .u8 0, .string { data := #[] }, .string { data := #[] }, .int .i64 0, .int .i64 0, .int .i64 q, .slice sb tn tc] 39)).heap.size by rw [← hbb]; simp]; simp) m os
                have u8' : ∀ m os, (grow (V.drewN m) os).cell? ⟨bb + 1, 8, none⟩ = some (.slice sa sn sc) := fun m os => cell_grown hbV1 (by rw [← hV', show bb + 1 = (Y1.alloc (.cells #[.int .i64 0, .string { data := #[] }, .int .u8 0, .string { data := #[] }, .string { data := #[] }, .int .i64 0, .int .i64 0, .int .i64 q, .slice sb tn tc] 39)).heap.size by rw [← hbb]; simp]; simp) m os
                rw [hV'] at hBV
                rw [hV', hbb]
                obtain ⟨_, _, hHa, hHb, _⟩ := T.out V hBV
                have hk1 := k_r 0 { data := #[] } 0 { data := #[] } { data := #[] } 0 0 sb tn tc (put l k p c) q V hHb (by rw [HPL.out]; have := Hn.out; omega) HQ.out
                rw [HQO.out] at hk1
                have hk2 := k_r 0 { data := #[] } 0 { data := #[] } { data := #[] } 0 0 sa sn sc l q V hHa (by rw [HL.out]; have := Hn.out; omega) HQ.out
                have HBV : Aside (Below X2.heap.size X2 V) := hBV
                clear hV' hbb hBV hbV hbV1 hHa hHb f15 f16 AL HQO
                go_wp2_with fail
                go_quiet_grown (first | (go_at_call 18; first | refine Calls.grown_of (hk1 _ _) | refine Calls.grown_of (hk2 _ _)))
                go_wp2
                go_ret
                exact ⟨rfl, HBw2.out.trans ((HBV.out.trans ((Gr.below ⟨nq, osq, rfl⟩).mono HBV.out.size)).mono HBw2.out.size)⟩

theorem put_any (a : Option Addr) (n cap : Nat) (l : List (Int × Int)) (i p c q : Int) (w : World) (hV : EntV w a n cap l) (hp : p ≤ 9223372036854775807) :
    Calls Try.prog 6 #[.slice a n cap, .int .i64 i, .int .i64 p, .int .i64 c, .int .i64 q] w fun e w' => e = .returned (.bool true) ∧ Below w.heap.size w w' := by
  by_cases h : n ≤ 4096 ∧ 0 ≤ i ∧ i ≤ n ∧ 0 ≤ p ∧ p ≠ 9223372036854775807 ∧ 0 ≤ q ∧ dom l = true
  · obtain ⟨h1, h2, h3, h4, h5, h6, h7⟩ := h
    obtain ⟨k, rfl⟩ := Int.eq_ofNat_of_zero_le h2
    exact put_main a n cap l k p c q w hV h1 (by omega) h4 h5 hp h6 h7
  · exact put_early a n cap l i p c q w hV h
#print axioms put_any
end Go.Proofs.Qxb6608749a.Law
