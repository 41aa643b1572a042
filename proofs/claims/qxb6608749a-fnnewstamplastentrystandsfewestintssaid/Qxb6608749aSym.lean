/-
  slices.symMergeCmpFunc at [2]int: it merges two sorted runs, stably; slices.insertionSortCmpFunc: what it keeps.
-/
import Derived.Test.Qxb6608749aSym1
import Derived.Test.Qxb6608749aSym2
import Derived.Test.Qxb6608749aSym3a
import Derived.Test.Qxb6608749aSym3b
namespace Go.Proofs.Qxb6608749a.Stable
open Go.Shelf Go.RowKit Go.Lib Go.Sort

theorem symTo (blk off cap : Nat) (d0 : Array (Int × Int)) (w0 : World) (R : Row w0 blk off d0) (hsz : d0.size < 4611686018427387904) : ∀ L, SymTo blk off cap d0.size L w0
  | 0 => fun a m b d w h1 h2 h3 h4 => absurd h4 (by omega)
  | L + 1 => fun a m b d w h1 h2 h3 h4 hd S hA hB => by
    have IH := symTo blk off cap d0 w0 R hsz L
    by_cases c1 : m = a + 1
    · have h := sym1_any blk off cap a m b d0 d w0 w R hd.symm S c1 h2 (by omega) (by omega) hB
      rw [hd] at h
      refine h.mono ?_
      rintro e w' ⟨rfl, i, d', i1, i2, P1, P2, hR, hw⟩
      obtain ⟨k1, k2⟩ := carried hB c1 (by omega) i1 i2 P1 P2 hR
      exact ⟨rfl, d', k1, k2, hw⟩
    · by_cases c2 : b = m + 1
      · have h := sym2_any blk off cap a m b d0 d w0 w R hd.symm S h1 c1 c2 (by omega) (by omega) hA
        rw [hd] at h
        refine h.mono ?_
        rintro e w' ⟨rfl, i, d', i1, i2, P1, P2, hR, hw⟩
        obtain ⟨k1, k2⟩ := carriedL hA c2 (by omega) i1 i2 P1 P2 hR
        exact ⟨rfl, d', k1, k2, hw⟩
      · have IH' : SymTo blk off cap d.size (b - a) w0 := by
          rw [hd]
          exact fun a' m' b' d' w' g1 g2 g3 g4 => IH a' m' b' d' w' g1 g2 g3 (by omega)
        by_cases c3 : (a + b) / 2 < m
        · have h := sym3_left blk off cap a m b ((a + b) / 2) ((a + b) / 2 + m - b) ((a + b) / 2) d0 d w0 w R hd.symm S h1 h2 c2 (by omega) (by omega) hA hB rfl ⟨c3, by omega, rfl⟩ IH'
          rw [hd] at h
          exact h
        · have h := sym3_right blk off cap a m b ((a + b) / 2) a m d0 d w0 w R hd.symm S h1 h2 c1 (by omega) (by omega) hA hB rfl ⟨by omega, rfl, rfl⟩ IH'
          rw [hd] at h
          exact h

/-! ### the insertion sort -/
theorem swp_keep (d : Array (Int × Int)) (j : Nat) (hj : j + 1 < d.size) (h : d[j + 1]!.1 < d[j]!.1) : Keep j (j + 2) d (swp d (j + 1) j) := by
  have hR : Rot d (swp d (j + 1) j) j (j + 1) (j + 2) := rot_carryL (j + 1) j (by omega) hj (rot_refl d (j + 1) (j + 1 + 1))
  refine hR.keep (by omega) (by omega) (by omega) fun x y x1 x2 y1 y2 => ?_
  obtain rfl : x = j := by omega
  obtain rfl : y = x + 1 := by omega
  exact h

theorem inner_keep (a b : Nat) : ∀ (i : Nat) (d : Array (Int × Int)), i < b → b ≤ d.size → Keep a b d (insInner (ltOf cfE) a i d)
  | 0, d, _, _ => by unfold insInner; exact Keep.refl _ _ _
  | j + 1, d, hi, hb => by
    unfold insInner
    by_cases c : (decide (j + 1 > a) && ltOf cfE d[j + 1]! d[j]!) = true
    · rw [if_pos c]
      rw [Bool.and_eq_true, decide_eq_true_eq, lt_cf, decide_eq_true_eq] at c
      have k := (swp_keep d j (by omega) c.2).mono (a' := a) (b' := b) (by omega) (by omega)
      exact k.trans (inner_keep a b j _ (by omega) (by rw [size_swp]; exact hb))
    · rw [if_neg c]; exact Keep.refl _ _ _

theorem outer_keep (a b : Nat) : ∀ (f i : Nat) (d : Array (Int × Int)), b - i ≤ f → b ≤ d.size → Keep a b d (insOuter (ltOf cfE) a b i d)
  | 0, i, d, hf, _ => by rw [insOuter_stop _ _ _ _ _ (by omega)]; exact Keep.refl _ _ _
  | f + 1, i, d, hf, hb => by
    by_cases c : i < b
    · rw [insOuter_go _ _ _ _ _ c]
      have k := inner_keep a b i d c hb
      exact k.trans (outer_keep a b f (i + 1) _ (by omega) (by rw [k.size]; exact hb))
    · rw [insOuter_stop _ _ _ _ _ c]; exact Keep.refl _ _ _

theorem ins_keep (d : Array (Int × Int)) (a b : Nat) (hb : b ≤ d.size) : Keep a b d (Sort.insertionSort (ltOf cfE) d a b) := outer_keep a b (b - (a + 1)) (a + 1) d (Nat.le_refl _) hb
theorem ins_srt (d : Array (Int × Int)) (a b : Nat) (hab : a ≤ b) (hb : b ≤ d.size) : Srt (Sort.insertionSort (ltOf cfE) d a b) a b := by
  intro i j i1 ij j2
  have h := (insertionSort_holds swo d a b hab hb).2 i j i1 ij j2
  rw [lt_cf, decide_eq_false_iff_not] at h
  omega

theorem insertion_any (blk off cap a b : Nat) (d0 d : Array (Int × Int)) (w0 w : World)
    (R : Row w0 blk off d0) (hs : d.size = d0.size) (S : SW w0 blk off d w) (hab : a ≤ b) (hb : b ≤ d0.size) (hsz : d0.size < 4611686018427387904) :
    Calls Try.prog 32 #[.slice (some ⟨blk, off, none⟩) d0.size cap, .int .i64 a, .int .i64 b, .func (.func 25) #[] #[]] w fun e w' => e = .returned (.tuple #[]) ∧ ∃ d', Keep a b d d' ∧ Srt d' a b ∧ SW w0 blk off d' w' := by
  have hC : CmpLays Try.prog 25 #[] encE 2 cfE blk off d.size w := cmpLays _ _ _ _
  have hk := ins_keep d a b (by omega)
  have hr := ins_srt d a b hab (by omega)
  have h := Lay.insertionSortCmpFunc 2 Try.isAgg29 Try.sizeOf29 encE encE_len encE_one cfE 25 #[] blk off cap a b d w (enters_of Try.func25 (by kernel_rfl) rfl) hC (sw_holds S R hs) (SWK.lt S (row_hblk R)) hab (by omega) (by omega)
  rw [hs] at h
  refine h.mono ?_
  rintro e w' ⟨rfl, n, os, rfl⟩
  exact ⟨rfl, _, hk, hr, SWK.on S (row_hblk R) n _ os hk.size⟩
#print axioms symTo
#print axioms insertion_any
end Go.Proofs.Qxb6608749a.Stable
