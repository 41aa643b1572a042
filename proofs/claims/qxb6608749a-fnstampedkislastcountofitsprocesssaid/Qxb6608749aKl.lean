/-
  FnStampedKIsLastCountOfItsProcess: the walk.
-/
import Derived.Test.Qxb6608749aKlA
import Derived.Shelf.SlSortCmp.QuietGrown
namespace Go.Proofs.Qxb6608749a.Law
open Go.RowKit Go.Shelf Go.Sort

/-- The seven cells of an event. -/
def Ev (Y : World) (b : Nat) (x2 : Int) (s3 : ByteArray) (x4 : Int) (s5 s6 : ByteArray) (x7 x8 : Int) : Prop :=
  Y.cell? ⟨b, 0, none⟩ = some (.int .i64 x2) ∧ Y.cell? ⟨b, 1, none⟩ = some (.string s3) ∧ Y.cell? ⟨b, 2, none⟩ = some (.int .u8 x4) ∧ Y.cell? ⟨b, 3, none⟩ = some (.string s5) ∧ Y.cell? ⟨b, 4, none⟩ = some (.string s6) ∧ Y.cell? ⟨b, 5, none⟩ = some (.int .i64 x7) ∧ Y.cell? ⟨b, 6, none⟩ = some (.int .i64 x8)
theorem Ev.below {N : Nat} {A B : World} {b : Nat} {x2 : Int} {s3 : ByteArray} {x4 : Int} {s5 s6 : ByteArray} {x7 x8 : Int} (h : Ev A b x2 s3 x4 s5 s6 x7 x8) (hb : Below N A B) (hl : b < N) : Ev B b x2 s3 x4 s5 s6 x7 x8 := by
  unfold Ev
  rw [hb.cell (p := ⟨b, 0, none⟩) hl, hb.cell (p := ⟨b, 1, none⟩) hl, hb.cell (p := ⟨b, 2, none⟩) hl, hb.cell (p := ⟨b, 3, none⟩) hl, hb.cell (p := ⟨b, 4, none⟩) hl, hb.cell (p := ⟨b, 5, none⟩) hl, hb.cell (p := ⟨b, 6, none⟩) hl]
  exact h

set_option maxRecDepth 100000 in
set_option maxHeartbeats 4000000 in
theorem kl_main (a : Option Addr) (n cap : Nat) (l : List (Int × Int)) (p x2 : Int) (s3 : ByteArray) (x4 : Int) (s5 s6 : ByteArray) (x7 x8 : Int) (w : World) (hV : EntV w a n cap l)
    (c0 : n ≤ 4096) (c1 : s3.size ≤ 262144) (c2 : s5.size ≤ 262144) (c3 : s6.size ≤ 262144) (h1 : n + s3.size + s5.size + s6.size ≤ 1048576) (c4 : 0 ≤ p) (hd : dom l = true) :
    Calls Try.prog 5 #[.slice a n cap, .int .i64 p, .int .i64 x2, .string s3, .int .u8 x4, .string s5, .string s6, .int .i64 x7, .int .i64 x8] w fun e w' => e = .returned (.bool true) ∧ Below w.heap.size w w' := by
  have mixed : Try.prog.follows Departure.mixedOrders = true := by kernel_rfl
  have hZ := zz17_any a n cap p x2 s3 x4 s5 s6 x7 x8 w
  rw [decide_eq_true h1] at hZ
  have hD := dom_c a n cap l w hV.len hV.ent (by omega)
  rw [hd] at hD
  have p0 : (n : Int) ≤ 4096 := by omega
  have p1 : (s3.size : Int) ≤ 262144 := by omega
  have p2 : (s5.size : Int) ≤ 262144 := by omega
  have p3 : (s6.size : Int) ≤ 262144 := by omega
  have p4 : ¬ (p < 0) := by omega
  have HV : Aside (EntV w a n cap l) := hV
  have HD : Aside (dom l = true) := hd
  have HL : Hid (l.length = n) := hV.len
  have Hn : Hid (n ≤ 4096) := c0
  have HP : Hid (0 ≤ p) := c4
  clear hV h1 hd c0 c1 c2 c3 c4
  go_enter Try.func5, Try.ntmps5
  go_upto_if 60 with (first | (go_at_call 17; refine hZ.mono ?_; rintro e w1 ⟨rfl, hw⟩; subst w1) | (go_at_call 8; refine hD.mono ?_; rintro e w1 ⟨rfl, hw⟩; subst w1))
  go_cut [0] (fun v wc => ∃ a' cap', v = .slice a' n cap' ∧ Aside (Ent wc a' l) ∧ Aside (Below w.heap.size w wc))
  case first =>
    cases a with
    | none =>
      obtain ⟨hn, hc⟩ := HV.out.nil rfl
      go_wp2
      go_meet
      exact ⟨none, cap, rfl, HV.out.ent, Below.refl _ _⟩
    | some A =>
      have hmk := fun W => run_mk22 W n n (Nat.le_refl _) (by have := Hn.out; omega)
      obtain ⟨W', hcp, hE, hB⟩ := copy_c w A n cap l HL.out HV.out.ent
      have HE : Aside _ := hE
      have HB : Aside _ := hB
      clear hE hB
      generalize madeCells #[Value.int .i64 0, .int .i64 0] (n * 2) = X at hmk hcp
      go_wp2
      go_meet
      exact ⟨_, n, rfl, HE.out, HB.out⟩
  case rest =>
    obtain ⟨a', cap', rfl, HE, HB⟩ := hcut
    have HWF : Aside (∀ x ∈ l, x.1 ≤ 9223372036854775807) := HV.out.wf
    clear hZ hD HV p1 p2 p3
    have HB1 : Aside (Below wc.heap.size wc (wc.alloc (.cells #[.int .i64 x2, .string s3, .int .u8 x4, .string s5, .string s6, .int .i64 x7, .int .i64 x8] 37))) := (Below.refl _ wc).alloc (Nat.le_refl _) _
    have HEv : Aside (Ev (wc.alloc (.cells #[.int .i64 x2, .string s3, .int .u8 x4, .string s5, .string s6, .int .i64 x7, .int .i64 x8] 37)) wc.heap.size x2 s3 x4 s5 s6 x7 x8) := by show Ev _ _ _ _ _ _ _ _ _; unfold Ev; simp
    have HLs : Hid (wc.heap.size < (wc.alloc (.cells #[.int .i64 x2, .string s3, .int .u8 x4, .string s5, .string s6, .int .i64 x7, .int .i64 x8] 37)).heap.size) := show _ < _ by simp
    go_wp2_with fail
    refine (new_c a' n cap' l _ HL.out (by have := Hn.out; omega) (HE.out.below HB1.out) HD.out HWF.out).mono ?_
    rintro e W1 ⟨sa, sn, sc, rfl, hH, hB1⟩
    have HX : Aside (∀ o, Ev (W1.alloc o) wc.heap.size x2 s3 x4 s5 s6 x7 x8) := fun o => Ev.below (Ev.below HEv.out hB1 HLs.out) ((Below.refl _ W1).alloc (Nat.le_refl _) o) (Nat.lt_of_lt_of_le HLs.out hB1.size)
    have HH1 : Aside (Holds W1 sa sn sc l) := hH
    have HLs1 : Hid (wc.heap.size < W1.heap.size) := show _ < _ from Nat.lt_of_lt_of_le HLs.out hB1.size
    have HE1 : Aside (Ent W1 a' l) := (HE.out.below HB1.out).below hB1
    have HBw : Aside (Below w.heap.size w W1) := HB.out.trans ((HB1.out.trans (hB1.mono HB1.out.size)).mono HB.out.size)
    have e0 := fun o => (HX.out o).1
    have e1 := fun o => (HX.out o).2.1
    have e2 := fun o => (HX.out o).2.2.1
    have e3 := fun o => (HX.out o).2.2.2.1
    have e4 := fun o => (HX.out o).2.2.2.2.1
    have e5 := fun o => (HX.out o).2.2.2.2.2.1
    have e6 := fun o => (HX.out o).2.2.2.2.2.2
    clear hH hB1 HEv HLs HB1 HE HB HWF
    go_wp2_with fail
    have HBX : Aside (Below W1.heap.size W1 ((W1.alloc (.cells #[.slice sa sn sc] 27)).alloc (.cells #[.int .i64 x2, .string s3, .int .u8 x4, .string s5, .string s6, .int .i64 x7, .int .i64 x8, .int .i64 p, .slice sa sn sc] 39))) := ((Below.refl _ W1).alloc (Nat.le_refl _) _).alloc (by simp) _
    have HcX : Hid (((W1.alloc (.cells #[.slice sa sn sc] 27)).alloc (.cells #[.int .i64 x2, .string s3, .int .u8 x4, .string s5, .string s6, .int .i64 x7, .int .i64 x8, .int .i64 p, .slice sa sn sc] 39)).cell? ⟨W1.heap.size, 0, none⟩ = some (.slice sa sn sc)) := by
      show _ = _
      rw [((Below.refl _ (W1.alloc (.cells #[.slice sa sn sc] 27))).alloc (Nat.le_refl _) (.cells #[.int .i64 x2, .string s3, .int .u8 x4, .string s5, .string s6, .int .i64 x7, .int .i64 x8, .int .i64 p, .slice sa sn sc] 39)).cell (p := ⟨W1.heap.size, 0, none⟩) (by simp)]
      simp
    have HsX : Hid (W1.heap.size < ((W1.alloc (.cells #[.slice sa sn sc] 27)).alloc (.cells #[.int .i64 x2, .string s3, .int .u8 x4, .string s5, .string s6, .int .i64 x7, .int .i64 x8, .int .i64 p, .slice sa sn sc] 39)).heap.size) := show _ < _ by simp; omega
    refine (k_c x2 s3 x4 s5 s6 x7 x8 sa sn sc l p _ (HH1.out.later HBX.out) (by rw [HL.out]; have := Hn.out; omega) HP.out).mono ?_
    rintro e Y1 ⟨rfl, hY1⟩
    have HBY : Aside (Below W1.heap.size W1 Y1) := HBX.out.trans (hY1.mono HBX.out.size)
    have T : Aside (∀ Y, Below Y1.heap.size Y1 Y → Ev Y wc.heap.size x2 s3 x4 s5 s6 x7 x8 ∧ Y.cell? ⟨W1.heap.size, 0, none⟩ = some (.slice sa sn sc) ∧ Holds Y sa sn sc l ∧ Ent Y a' l) := by
      intro Y hY
      have hW : Below W1.heap.size W1 Y := HBY.out.trans (hY.mono HBY.out.size)
      have h0 := HX.out (.cells #[.slice sa sn sc] 27)
      refine ⟨?_, ?_, HH1.out.later hW, HE1.out.below hW⟩
      · have h1 : Ev W1 wc.heap.size x2 s3 x4 s5 s6 x7 x8 := by
          have hb := (Below.refl W1.heap.size W1).alloc (Nat.le_refl _) (.cells #[.slice sa sn sc] 27)
          unfold Ev at h0 ⊢
          have hl := HLs1.out
          rw [hb.cell (p := ⟨wc.heap.size, 0, none⟩) hl, hb.cell (p := ⟨wc.heap.size, 1, none⟩) hl, hb.cell (p := ⟨wc.heap.size, 2, none⟩) hl, hb.cell (p := ⟨wc.heap.size, 3, none⟩) hl, hb.cell (p := ⟨wc.heap.size, 4, none⟩) hl, hb.cell (p := ⟨wc.heap.size, 5, none⟩) hl, hb.cell (p := ⟨wc.heap.size, 6, none⟩) hl] at h0
          exact h0
        exact Ev.below h1 hW HLs1.out
      · have hs1 : W1.heap.size < Y1.heap.size := Nat.lt_of_lt_of_le HsX.out hY1.size
        exact ((hY.cell (p := ⟨W1.heap.size, 0, none⟩) hs1).trans (hY1.cell (p := ⟨W1.heap.size, 0, none⟩) HsX.out)).trans HcX.out
    have HBw1 : Aside (Below w.heap.size w Y1) := HBw.out.trans (HBY.out.mono HBw.out.size)
    have HEY : Aside (Ent Y1 a' l) := (T.out Y1 (Below.refl _ _)).2.2.2
    clear hY1 HBX HcX HsX HX e0 e1 e2 e3 e4 e5 e6 HBw HE1 HH1
    go_wp2_with fail
    refine (count_c a' n cap' l p Y1 HL.out HEY.out (by have := Hn.out; omega)).mono ?_
    rintro e Y1' ⟨rfl, hw⟩
    subst Y1'
    go_wp2
    generalize wc.heap.size = b20 at *
    generalize W1.heap.size = b21 at *
    go_loopg [23] n (fun kx s wr => ∃ i : Nat, s = .int .i64 i ∧ i ≤ n ∧ n - i ≤ kx ∧ Aside (Below Y1.heap.size Y1 wr))
    case atStart => exact ⟨0, rfl, Nat.zero_le _, Nat.le_refl _, Below.refl _ _⟩
    case round =>
      obtain ⟨i, rfl, hin, hkx, HBr⟩ := hrel
      by_cases hlt : i < n
      · have hltz : (i : Int) < (n : Int) := by omega
        have HLT : Hid (i < n) := hlt
        obtain ⟨⟨e0, e1, e2, e3, e4, e5, e6⟩, e7, hH, hE⟩ := T.out wr HBr.out
        obtain ⟨b, o, ha, d0, _⟩ := hE.at i (by rw [HL.out]; exact hlt)
        have HQ : Hid (0 ≤ (ent l i).1) := dom_ent HD.out i (by rw [HL.out]; exact hlt)
        have HHr : Aside (Holds wr sa sn sc l) := hH
        have HEr : Aside (Ent wr a' l) := hE
        have TA : Aside (∀ o, Below Y1.heap.size Y1 (wr.alloc o)) := fun o => HBr.out.alloc HBr.out.size o
        have g0 := fun o => (T.out (wr.alloc o) (TA.out o)).1.1
        have g1 := fun o => (T.out (wr.alloc o) (TA.out o)).1.2.1
        have g2 := fun o => (T.out (wr.alloc o) (TA.out o)).1.2.2.1
        have g3 := fun o => (T.out (wr.alloc o) (TA.out o)).1.2.2.2.1
        have g4 := fun o => (T.out (wr.alloc o) (TA.out o)).1.2.2.2.2.1
        have g5 := fun o => (T.out (wr.alloc o) (TA.out o)).1.2.2.2.2.2.1
        have g6 := fun o => (T.out (wr.alloc o) (TA.out o)).1.2.2.2.2.2.2
        have g7 := fun o => (T.out (wr.alloc o) (TA.out o)).2.1
        subst ha
        have gd : ∀ ob, (wr.alloc ob).cell? ⟨b, o + i * 2, none⟩ = some (.int .i64 (ent l i).1) := fun ob => by
          obtain ⟨b', o', e, h, _⟩ := (T.out (wr.alloc ob) (TA.out ob)).2.2.2.at i (by rw [HL.out]; exact hlt)
          injection e with e
          injection e with ea eb _
          rw [ea, eb]
          exact h
        generalize (ent l i).1 = q at *
        clear hlt hin hH hE
        go_wp2_with fail
        go_region
        have hBV : Below Y1.heap.size Y1 (wr.alloc (.cells #[.int .i64 x2, .string s3, .int .u8 x4, .string s5, .string s6, .int .i64 x7, .int .i64 x8, .int .i64 q, .slice sa sn sc] 39)).drew := (TA.out (.cells #[.int .i64 x2, .string s3, .int .u8 x4, .string s5, .string s6, .int .i64 x7, .int .i64 x8, .int .i64 q, .slice sa sn sc] 39)).drew
        have hdV : (wr.alloc (.cells #[.int .i64 x2, .string s3, .int .u8 x4, .string s5, .string s6, .int .i64 x7, .int .i64 x8, .int .i64 q, .slice sa sn sc] 39)).drew.cell? ⟨b, o + i * 2, none⟩ = some (.int .i64 q) := gd (.cells #[.int .i64 x2, .string s3, .int .u8 x4, .string s5, .string s6, .int .i64 x7, .int .i64 x8, .int .i64 q, .slice sa sn sc] 39)
        have hbV : wr.heap.size < (wr.alloc (.cells #[.int .i64 x2, .string s3, .int .u8 x4, .string s5, .string s6, .int .i64 x7, .int .i64 x8, .int .i64 q, .slice sa sn sc] 39)).drew.heap.size := by show _ < (wr.alloc (.cells #[.int .i64 x2, .string s3, .int .u8 x4, .string s5, .string s6, .int .i64 x7, .int .i64 x8, .int .i64 q, .slice sa sn sc] 39)).heap.size; simp
        clear e0 e1 e2 e3 e4 e5 e6 e7 g0 g1 g2 g3 g4 g5 g6 g7 gd d0 TA
        obtain ⟨V, hV'⟩ : ∃ V, (wr.alloc (.cells #[.int .i64 x2, .string s3, .int .u8 x4, .string s5, .string s6, .int .i64 x7, .int .i64 x8, .int .i64 q, .slice sa sn sc] 39)).drew = V := ⟨_, rfl⟩
        rw [hV'] at hBV hdV hbV
        rw [hV']
        obtain ⟨bb, hbb⟩ : ∃ bb, wr.heap.size = bb := ⟨_, rfl⟩
        rw [hbb] at hbV
        rw [hbb]
        have hlb : b < V.heap.size := World.block_lt_of_cell? _ _ hdV
        have v0 : ∀ m os, (grow (V.drewN m) os).cell? ⟨bb, 0, none⟩ = some (.int .i64 x2) := fun m os => cell_grown hbV (by rw [← hV']; simp [← hbb]) m os
        have v1 : ∀ m os, (grow (V.drewN m) os).cell? ⟨bb, 1, none⟩ = some (.string s3) := fun m os => cell_grown hbV (by rw [← hV']; simp [← hbb]) m os
        have v2 : ∀ m os, (grow (V.drewN m) os).cell? ⟨bb, 2, none⟩ = some (.int .u8 x4) := fun m os => cell_grown hbV (by rw [← hV']; simp [← hbb]) m os
        have v3 : ∀ m os, (grow (V.drewN m) os).cell? ⟨bb, 3, none⟩ = some (.string s5) := fun m os => cell_grown hbV (by rw [← hV']; simp [← hbb]) m os
        have v4 : ∀ m os, (grow (V.drewN m) os).cell? ⟨bb, 4, none⟩ = some (.string s6) := fun m os => cell_grown hbV (by rw [← hV']; simp [← hbb]) m os
        have v5 : ∀ m os, (grow (V.drewN m) os).cell? ⟨bb, 5, none⟩ = some (.int .i64 x7) := fun m os => cell_grown hbV (by rw [← hV']; simp [← hbb]) m os
        have v6 : ∀ m os, (grow (V.drewN m) os).cell? ⟨bb, 6, none⟩ = some (.int .i64 x8) := fun m os => cell_grown hbV (by rw [← hV']; simp [← hbb]) m os
        have v7 : ∀ m os, (grow (V.drewN m) os).cell? ⟨bb, 7, none⟩ = some (.int .i64 q) := fun m os => cell_grown hbV (by rw [← hV']; simp [← hbb]) m os
        have v8 : ∀ m os, (grow (V.drewN m) os).cell? ⟨bb, 8, none⟩ = some (.slice sa sn sc) := fun m os => cell_grown hbV (by rw [← hV']; simp [← hbb]) m os
        have vd : ∀ m os, (grow (V.drewN m) os).cell? ⟨b, o + i * 2, none⟩ = some (.int .i64 q) := fun m os => cell_grown hlb hdV m os
        obtain ⟨_, _, hHV, hEV⟩ := T.out V hBV
        have hk := k_r x2 s3 x4 s5 s6 x7 x8 sa sn sc l q V hHV (by rw [HL.out]; have := Hn.out; omega) HQ.out
        have hcn := count_r (some ⟨b, o, none⟩) n cap' l q V HL.out hEV (by have := Hn.out; omega)
        have HBV : Aside (Below Y1.heap.size Y1 V) := hBV
        clear hV' hbb hBV hdV hbV hlb hHV hEV HHr HEr
        go_wp2_with fail
        go_quiet_grown (first | (go_at_call 18; refine Calls.grown_of (hk _ _)) | (go_at_call 11; refine Calls.grown_of (hcn _ _)))
        go_wp2
        go_roundg (n - (i + 1))
        case measure => have := HLT.out; omega
        case rel => exact ⟨i + 1, by go_num, HLT.out, Nat.le_refl _, HBV.out.trans ((Gr.below ⟨nq, osq, rfl⟩).mono HBV.out.size)⟩
      · have hltz : ¬ ((i : Int) < (n : Int)) := by omega
        clear hlt hin hkx
        go_wp2
        go_ret
        exact ⟨rfl, HBw1.out.trans (HBr.out.mono HBw1.out.size)⟩

theorem kl_any (a : Option Addr) (n cap : Nat) (l : List (Int × Int)) (p x2 : Int) (s3 : ByteArray) (x4 : Int) (s5 s6 : ByteArray) (x7 x8 : Int) (w : World) (hV : EntV w a n cap l) :
    Calls Try.prog 5 #[.slice a n cap, .int .i64 p, .int .i64 x2, .string s3, .int .u8 x4, .string s5, .string s6, .int .i64 x7, .int .i64 x8] w fun e w' => e = .returned (.bool true) ∧ Below w.heap.size w w' := by
  by_cases h : n ≤ 4096 ∧ s3.size ≤ 262144 ∧ s5.size ≤ 262144 ∧ s6.size ≤ 262144 ∧ n + s3.size + s5.size + s6.size ≤ 1048576 ∧ 0 ≤ p ∧ dom l = true
  · obtain ⟨h1, h2, h3, h4, h5, h6, h7⟩ := h
    exact kl_main a n cap l p x2 s3 x4 s5 s6 x7 x8 w hV h1 h2 h3 h4 h5 h6 h7
  · exact kl_early a n cap l p x2 s3 x4 s5 s6 x7 x8 w hV h
#print axioms kl_any
end Go.Proofs.Qxb6608749a.Law
