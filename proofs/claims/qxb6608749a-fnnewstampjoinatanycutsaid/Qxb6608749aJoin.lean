/-
  FnNewStampJoinAtAnyCut: the walk.
-/
import Derived.Test.Qxb6608749aJoinA
namespace Go.Proofs.Qxb6608749a.Law
open Go.RowKit Go.Shelf

set_option maxRecDepth 100000 in
set_option maxHeartbeats 4000000 in
theorem join_main (a : Option Addr) (n cap : Nat) (l : List (Int × Int)) (c : Nat) (p : Int) (w : World) (hV : EntV w a n cap l)
    (h1 : n ≤ 4096) (h2 : c ≤ n) (h3 : 0 ≤ p) (h4 : dom l = true) :
    Calls Try.prog 4 #[.slice a n cap, .int .i64 (c : Int), .int .i64 p] w fun e w' => e = .returned (.bool true) ∧ Below w.heap.size w w' := by
  have hZ := zz15_any a n cap c p w
  rw [decide_eq_true (by omega : n ≤ 1048576)] at hZ
  have hD := dom_c a n cap l w hV.len hV.ent (by omega)
  rw [h4] at hD
  have z1 : (n : Int) ≤ 4096 := by omega
  have z2 : ¬ ((c : Int) < 0) := by omega
  have z3 : ¬ ((n : Int) < (c : Int)) := by omega
  have z4 : ¬ (p < 0) := by omega
  have HV : Aside (EntV w a n cap l) := hV
  have HD : Aside (dom l = true) := h4
  have HL : Hid (l.length = n) := hV.len
  have Hn : Hid (n ≤ 4096) := h1
  have Hc : Hid (c ≤ n) := h2
  clear hV h1 h2 h3 h4
  go_enter Try.func4, Try.ntmps4
  go_upto_if 38 with (first | (go_at_call 15; refine hZ.mono ?_; rintro e w1 ⟨rfl, hw⟩; subst w1) | (go_at_call 8; refine hD.mono ?_; rintro e w1 ⟨rfl, hw⟩; subst w1))
  go_cut [0] (fun v wc => ∃ a' cap', v = .slice a' n cap' ∧ n ≤ cap' ∧ Aside (Ent wc a' l) ∧ Aside (Below w.heap.size w wc))
  case first =>
    cases a with
    | none =>
      obtain ⟨hn, hc⟩ := HV.out.nil rfl
      go_wp2
      go_meet
      exact ⟨none, cap, rfl, HV.out.cap, HV.out.ent, Below.refl _ _⟩
    | some A =>
      have hmk := fun W => run_mk22 W n n (Nat.le_refl _) (by have := Hn.out; omega)
      obtain ⟨W', hcp, hE, hB⟩ := copy_c w A n cap l HL.out HV.out.ent
      have HE : Aside _ := hE
      have HB : Aside _ := hB
      clear hE hB
      generalize madeCells #[Value.int .i64 0, .int .i64 0] (n * 2) = X at hmk hcp
      go_wp2
      go_meet
      exact ⟨_, n, rfl, Nat.le_refl _, HE.out, HB.out⟩
  case rest =>
    obtain ⟨a', cap', rfl, hcap, HE, HB⟩ := hcut
    have HC : Hid (n ≤ cap') := hcap
    have hs1 := fun W => run_hi W a' n cap' c (by have := Hc.out; omega)
    have hs2 := fun W => run_lo W a' n cap' c Hc.out
    have HWF : Aside (∀ x ∈ l, x.1 ≤ 9223372036854775807) := HV.out.wf
    clear hcap hZ hD HV z2 z3
    go_wp2_with fail
    refine (new_c a' n cap' l wc HL.out (by have := Hn.out; omega) HE.out HD.out HWF.out).mono ?_
    rintro e W1 ⟨sa8, sn8, sc8, rfl, hH8, hB1⟩
    go_wp2_with fail
    have hB1' : Below wc.heap.size wc (W1.alloc (.cells #[.slice sa8 sn8 sc8] 27)) := hB1.alloc hB1.size _
    have hc8 : (W1.alloc (.cells #[.slice sa8 sn8 sc8] 27)).cell? ⟨W1.heap.size, 0, none⟩ = some (.slice sa8 sn8 sc8) := by simp
    have hH8' : Holds (W1.alloc (.cells #[.slice sa8 sn8 sc8] 27)) sa8 sn8 sc8 l := hH8.later ((Below.refl _ W1).alloc (Nat.le_refl _) _)
    have hE1 := HE.out.below hB1'
    have hl8 : W1.heap.size < (W1.alloc (.cells #[.slice sa8 sn8 sc8] 27)).heap.size := by simp
    generalize W1.alloc (.cells #[.slice sa8 sn8 sc8] 27) = X1 at *
    generalize W1.heap.size = b8 at *
    clear hB1 hH8
    refine (new_c a' c cap' (l.take c) X1 (by rw [List.length_take, HL.out]; have := Hc.out; omega) (by have := Hn.out; have := Hc.out; omega) (hE1.take c) (dom_take HD.out c) (fun x hx => HWF.out x (List.mem_of_mem_take hx))).mono ?_
    rintro e W2 ⟨sa9, sn9, sc9, rfl, hH9, hB2⟩
    go_wp2_with fail
    have hb2 : Below X1.heap.size X1 (W2.alloc (.cells #[.slice sa9 sn9 sc9] 27)) := hB2.alloc hB2.size _
    have hB2' : Below wc.heap.size wc (W2.alloc (.cells #[.slice sa9 sn9 sc9] 27)) := hB1'.trans (hb2.mono hB1'.size)
    have hc9 : (W2.alloc (.cells #[.slice sa9 sn9 sc9] 27)).cell? ⟨W2.heap.size, 0, none⟩ = some (.slice sa9 sn9 sc9) := by simp
    have hH9' : Holds (W2.alloc (.cells #[.slice sa9 sn9 sc9] 27)) sa9 sn9 sc9 (l.take c) := hH9.later ((Below.refl _ W2).alloc (Nat.le_refl _) _)
    have hE2 := hE1.below hb2
    have hc8' := (hb2.cell (p := ⟨b8, 0, none⟩) hl8).trans hc8
    have hH8'' := hH8'.later hb2
    have hl8' := Nat.lt_of_lt_of_le hl8 hb2.size
    have hl9 : W2.heap.size < (W2.alloc (.cells #[.slice sa9 sn9 sc9] 27)).heap.size := by simp
    generalize W2.alloc (.cells #[.slice sa9 sn9 sc9] 27) = X2 at *
    generalize W2.heap.size = b9 at *
    clear hB2 hH9 hc8 hH8' hl8 hE1 hb2 hB1'
    refine (new_c (dropA a' cap' c) (n - c) (cap' - c) (l.drop c) X2 (by rw [List.length_drop, HL.out]) (by have := Hn.out; omega) (hE2.drop cap' c (by rw [HL.out]; exact HC.out)) (dom_drop HD.out c) (fun x hx => HWF.out x (List.mem_of_mem_drop hx))).mono ?_
    rintro e W3 ⟨sa10, sn10, sc10, rfl, hH10, hB3⟩
    have hb3 : Below X2.heap.size X2 (W3.alloc (.cells #[.slice sa10 sn10 sc10] 27)) := hB3.alloc hB3.size _
    have HB3 : Aside (Below w.heap.size w (W3.alloc (.cells #[.slice sa10 sn10 sc10] 27))) := HB.out.trans ((hB2'.trans (hb3.mono hB2'.size)).mono HB.out.size)
    have HH3 : Aside (∀ Y, Below (W3.alloc (.cells #[.slice sa10 sn10 sc10] 27)).heap.size (W3.alloc (.cells #[.slice sa10 sn10 sc10] 27)) Y →
        Y.cell? ⟨b8, 0, none⟩ = some (.slice sa8 sn8 sc8) ∧ Y.cell? ⟨b9, 0, none⟩ = some (.slice sa9 sn9 sc9) ∧ Y.cell? ⟨W3.heap.size, 0, none⟩ = some (.slice sa10 sn10 sc10) ∧
        Holds Y sa8 sn8 sc8 l ∧ Holds Y sa9 sn9 sc9 (l.take c) ∧ Holds Y sa10 sn10 sc10 (l.drop c) ∧ Ent Y a' l) := by
      intro Y hY
      have hYs : X2.heap.size ≤ (W3.alloc (.cells #[.slice sa10 sn10 sc10] 27)).heap.size := hb3.size
      have hZ : Below X2.heap.size X2 Y := hb3.trans (hY.mono hYs)
      exact ⟨(hZ.cell (p := ⟨b8, 0, none⟩) hl8').trans hc8', (hZ.cell (p := ⟨b9, 0, none⟩) hl9).trans hc9, (hY.cell (p := ⟨W3.heap.size, 0, none⟩) (by simp)).trans (by simp),
        hH8''.later hZ, hH9'.later hZ, (hH10.later ((Below.refl _ W3).alloc (Nat.le_refl _) _)).later hY, hE2.below hZ⟩
    clear hb3 hB3 hH10 hc8' hc9 hH8'' hH9' hE2 hl8' hl9 hB2' HB HE hs1
    go_wp2
    obtain ⟨X3, hX3⟩ : ∃ X3, W3.alloc (.cells #[.slice sa10 sn10 sc10] 27) = X3 := ⟨_, rfl⟩
    rw [hX3] at HB3 HH3
    rw [hX3]
    generalize W3.heap.size = b10 at *
    have T : Aside _ := HH3
    clear HH3 hX3
    go_loopg [11] (n + 1) (fun kx s wr => ∃ i : Nat, s = .int .i64 i ∧ i ≤ n + 1 ∧ n + 1 - i ≤ kx ∧ Aside (Below X3.heap.size X3 wr))
    case atStart => exact ⟨0, rfl, Nat.zero_le _, Nat.le_refl _, Below.refl _ _⟩
    case round =>
      obtain ⟨i, rfl, hin, hkx, HBr⟩ := hrel
      by_cases hi : i ≤ n
      · have HI : Hid (i ≤ n) := hi
        have hiz : (i : Int) ≤ (n : Int) := by omega
        by_cases hlt : i < n
        · have hltz : (i : Int) < (n : Int) := by omega
          obtain ⟨b, o, ha, _, hc0, _⟩ : ∃ b o, a' = some ⟨b, o, none⟩ ∧ True ∧ wr.cell? ⟨b, o + i * 2, none⟩ = some (.int .i64 (ent l i).1) ∧ True := by
            obtain ⟨b, o, ha, h0, _⟩ := (T.out wr HBr.out).2.2.2.2.2.2.at i (by rw [HL.out]; exact hlt)
            exact ⟨b, o, ha, trivial, h0, trivial⟩
          have HQ : Hid (0 ≤ (ent l i).1) := dom_ent HD.out i (by rw [HL.out]; exact hlt)
          subst ha
          generalize (ent l i).1 = q at *
          clear hi hlt hin
          obtain ⟨c8, c9, c10, H8, H9, H10, HEr⟩ := T.out wr HBr.out
          go_wp2_with fail
          refine (at_c sa9 sn9 sc9 (l.take c) q wr H9 (by rw [List.length_take, HL.out]; have := Hn.out; omega) HQ.out).mono ?_
          rintro e Y1 ⟨rfl, hY1⟩
          have HY1 : Aside (Below X3.heap.size X3 Y1) := HBr.out.trans (hY1.mono HBr.out.size)
          clear c8 c9 c10 H8 H9 H10 HEr hY1
          obtain ⟨c8, c9, c10, H8, H9, H10, HEr⟩ := T.out Y1 HY1.out
          go_wp2_with fail
          refine (names_c (dropA (some ⟨b, o, none⟩) cap' c) (n - c) (cap' - c) (l.drop c) q Y1 (by rw [List.length_drop, HL.out]) (HEr.drop cap' c (by rw [HL.out]; exact HC.out)) (by have := Hn.out; omega)).mono ?_
          rintro e Y1' ⟨rfl, hw⟩
          subst Y1'
          by_cases hnm : nm (l.drop c) q = true
          · have hcut : Hid (lastC l q = lastC (l.drop c) q) := by show _ = _; rw [lastC_cut l c q, if_pos hnm]
            rw [hnm]
            go_wp2_with fail
            refine (at_c sa10 sn10 sc10 (l.drop c) q Y1 H10 (by rw [List.length_drop, HL.out]; have := Hn.out; omega) HQ.out).mono ?_
            rintro e Y2 ⟨rfl, hY2⟩
            have HY2 : Aside (Below X3.heap.size X3 Y2) := HY1.out.trans (hY2.mono HY1.out.size)
            clear c8 c9 c10 H8 H9 H10 HEr hY2
            obtain ⟨c8, c9, c10, H8, H9, H10, HEr⟩ := T.out Y2 HY2.out
            go_wp2_with fail
            have hA := at_c sa8 sn8 sc8 l q Y2 H8 (by rw [HL.out]; have := Hn.out; omega) HQ.out
            rw [hcut.out] at hA
            refine hA.mono ?_
            rintro e Y3 ⟨rfl, hY3⟩
            have HY3 : Aside (Below X3.heap.size X3 Y3) := HY2.out.trans (hY3.mono HY2.out.size)
            clear c8 c9 c10 H8 H9 H10 HEr hY3 hA
            go_wp2
            go_roundg (n + 1 - (i + 1))
            case measure => have := HI.out; omega
            case rel => exact ⟨i + 1, by go_num, by have := HI.out; omega, Nat.le_refl _, HY3⟩
          · have hcut : Hid (lastC l q = lastC (l.take c) q) := by show _ = _; rw [lastC_cut l c q, if_neg hnm]
            have hnf : nm (l.drop c) q = false := by simpa using hnm
            rw [hnf]
            clear hnm hnf
            go_wp2_with fail
            have hA := at_c sa8 sn8 sc8 l q Y1 H8 (by rw [HL.out]; have := Hn.out; omega) HQ.out
            rw [hcut.out] at hA
            refine hA.mono ?_
            rintro e Y3 ⟨rfl, hY3⟩
            have HY3 : Aside (Below X3.heap.size X3 Y3) := HY1.out.trans (hY3.mono HY1.out.size)
            clear c8 c9 c10 H8 H9 H10 HEr hY3 hA
            go_wp2
            go_roundg (n + 1 - (i + 1))
            case measure => have := HI.out; omega
            case rel => exact ⟨i + 1, by go_num, by have := HI.out; omega, Nat.le_refl _, HY3⟩
        · have hltz : ¬ ((i : Int) < (n : Int)) := by omega
          have HQ : Hid (0 ≤ p) := show 0 ≤ p by omega
          clear hi hlt hin
          obtain ⟨c8, c9, c10, H8, H9, H10, HEr⟩ := T.out wr HBr.out
          go_wp2_with fail
          refine (at_c sa9 sn9 sc9 (l.take c) p wr H9 (by rw [List.length_take, HL.out]; have := Hn.out; omega) HQ.out).mono ?_
          rintro e Y1 ⟨rfl, hY1⟩
          have HY1 : Aside (Below X3.heap.size X3 Y1) := HBr.out.trans (hY1.mono HBr.out.size)
          clear c8 c9 c10 H8 H9 H10 HEr hY1
          obtain ⟨c8, c9, c10, H8, H9, H10, HEr⟩ := T.out Y1 HY1.out
          go_wp2_with fail
          refine (names_c (dropA a' cap' c) (n - c) (cap' - c) (l.drop c) p Y1 (by rw [List.length_drop, HL.out]) (HEr.drop cap' c (by rw [HL.out]; exact HC.out)) (by have := Hn.out; omega)).mono ?_
          rintro e Y1' ⟨rfl, hw⟩
          subst Y1'
          by_cases hnm : nm (l.drop c) p = true
          · have hcut : Hid (lastC l p = lastC (l.drop c) p) := by show _ = _; rw [lastC_cut l c p, if_pos hnm]
            rw [hnm]
            go_wp2_with fail
            refine (at_c sa10 sn10 sc10 (l.drop c) p Y1 H10 (by rw [List.length_drop, HL.out]; have := Hn.out; omega) HQ.out).mono ?_
            rintro e Y2 ⟨rfl, hY2⟩
            have HY2 : Aside (Below X3.heap.size X3 Y2) := HY1.out.trans (hY2.mono HY1.out.size)
            clear c8 c9 c10 H8 H9 H10 HEr hY2
            obtain ⟨c8, c9, c10, H8, H9, H10, HEr⟩ := T.out Y2 HY2.out
            go_wp2_with fail
            have hA := at_c sa8 sn8 sc8 l p Y2 H8 (by rw [HL.out]; have := Hn.out; omega) HQ.out
            rw [hcut.out] at hA
            refine hA.mono ?_
            rintro e Y3 ⟨rfl, hY3⟩
            have HY3 : Aside (Below X3.heap.size X3 Y3) := HY2.out.trans (hY3.mono HY2.out.size)
            clear c8 c9 c10 H8 H9 H10 HEr hY3 hA
            go_wp2
            go_roundg (n + 1 - (i + 1))
            case measure => have := HI.out; omega
            case rel => exact ⟨i + 1, by go_num, by have := HI.out; omega, Nat.le_refl _, HY3⟩
          · have hcut : Hid (lastC l p = lastC (l.take c) p) := by show _ = _; rw [lastC_cut l c p, if_neg hnm]
            have hnf : nm (l.drop c) p = false := by simpa using hnm
            rw [hnf]
            clear hnm hnf
            go_wp2_with fail
            have hA := at_c sa8 sn8 sc8 l p Y1 H8 (by rw [HL.out]; have := Hn.out; omega) HQ.out
            rw [hcut.out] at hA
            refine hA.mono ?_
            rintro e Y3 ⟨rfl, hY3⟩
            have HY3 : Aside (Below X3.heap.size X3 Y3) := HY1.out.trans (hY3.mono HY1.out.size)
            clear c8 c9 c10 H8 H9 H10 HEr hY3 hA
            go_wp2
            go_roundg (n + 1 - (i + 1))
            case measure => have := HI.out; omega
            case rel => exact ⟨i + 1, by go_num, by have := HI.out; omega, Nat.le_refl _, HY3⟩
      · have hiz : ¬ ((i : Int) ≤ (n : Int)) := by omega
        clear hi hin hkx
        by_cases h0 : 0 < n
        · obtain ⟨k, hk⟩ : ∃ k, n = k + 1 := ⟨n - 1, by omega⟩
          have h0z : (0 : Int) < (n : Int) := by omega
          have en : (n : Int) - 1 = (k : Int) := by omega
          have hkz : (k : Int) < (n : Int) := by omega
          have ek : (k : Int).toNat = k := Int.toNat_natCast k
          obtain ⟨c8, c9, c10, H8, H9, H10, HEr⟩ := T.out wr HBr.out
          obtain ⟨b, o, ha, hc0, hc1⟩ := HEr.at k (by rw [HL.out]; omega)
          have HQ : Hid (0 ≤ (ent l k).1) := dom_ent HD.out k (by rw [HL.out]; omega)
          have HK : Hid (lastC l (ent l k).1 = (ent l k).2) := lastC_last l k (by rw [HL.out]; exact hk)
          subst ha
          have hA := at_c sa8 sn8 sc8 l (ent l k).1 wr H8 (by rw [HL.out]; have := Hn.out; omega) HQ.out
          rw [HK.out] at hA
          generalize (ent l k).1 = q at *
          generalize (ent l k).2 = y at *
          clear hk h0 H8 H9 H10 HEr
          go_wp2_with fail
          refine hA.mono ?_
          rintro e Y3 ⟨rfl, hY3⟩
          have HY3 : Aside (Below X3.heap.size X3 Y3) := HBr.out.trans (hY3.mono HBr.out.size)
          clear hA hY3
          go_wp2
          go_ret
          exact ⟨rfl, HB3.out.trans (HY3.out.mono HB3.out.size)⟩
        · have h0z : ¬ ((0 : Int) < (n : Int)) := by omega
          clear h0
          go_wp2
          go_ret
          exact ⟨rfl, HB3.out.trans (HBr.out.mono HB3.out.size)⟩

theorem join_any (a : Option Addr) (n cap : Nat) (l : List (Int × Int)) (c p : Int) (w : World) (hV : EntV w a n cap l) :
    Calls Try.prog 4 #[.slice a n cap, .int .i64 c, .int .i64 p] w fun e w' => e = .returned (.bool true) ∧ Below w.heap.size w w' := by
  by_cases h : n ≤ 4096 ∧ 0 ≤ c ∧ c ≤ n ∧ 0 ≤ p ∧ dom l = true
  · obtain ⟨h1, h2, h3, h4, h5⟩ := h
    obtain ⟨k, rfl⟩ := Int.eq_ofNat_of_zero_le h2
    exact join_main a n cap l k p w hV h1 (by omega) h4 h5
  · exact join_early a n cap l c p w hV h
#print axioms join_any
end Go.Proofs.Qxb6608749a.Law
