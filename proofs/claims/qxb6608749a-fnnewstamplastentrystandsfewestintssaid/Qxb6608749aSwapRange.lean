/-
  slices.swapRangeCmpFunc and slices.rotateCmpFunc at [2]int: their walks.
-/
import Derived.Test.Qxb6608749aKit
import Derived.Test.Qxb6608749aPlain
import Derived.BigRegion
namespace Go.Proofs.Qxb6608749a.Stable
open Go.Shelf Go.RowKit Go.Lib Go.Sort

set_option maxHeartbeats 2000000 in
set_option maxRecDepth 100000 in
theorem swapRange_any (g : Value) (blk off cap a b n : Nat) (d0 d : Array (Int × Int)) (w0 w : World)
    (R : Row w0 blk off d0) (hs : d0.size = d.size) (S : SW w0 blk off d w) (hab : a ≠ b) (ha : a + n ≤ d.size) (hb : b + n ≤ d.size) (hsz : d.size < 4611686018427387904) :
    Calls Try.prog 35 #[.slice (some ⟨blk, off, none⟩) d.size cap, .int .i64 a, .int .i64 b, .int .i64 n, g] w fun e w' => e = .returned (.tuple #[]) ∧ SW w0 blk off (swr d a b n) w' := by
  have S0 : Aside (SW w0 blk off d w) := S
  clear S
  go_enter Try.func35, Try.ntmps35
  go_wp2
  go_loopg [10] n (fun kx s wr => ∃ (i : Nat), s = .int .i64 i ∧ i ≤ n ∧ n - i ≤ kx ∧ Aside (SW w0 blk off (swr d a b i) wr))
  case atStart => exact ⟨0, rfl, by omega, by omega, S0⟩
  case round =>
    clear S0
    obtain ⟨i, rfl, hin, hkx, S1⟩ := hrel
    have hds := size_swr d a b i
    have Hds : Hid ((swr d a b i).size = d.size) := hds
    clear hds
    by_cases hlt : i < n
    · have hltz : (i : Int) < (n : Int) := by omega
      have ea : ((a : Int) + (i : Int)).toNat = a + i := by omega
      have pa : (0 : Int) ≤ (a : Int) + (i : Int) := by omega
      have ba : (a : Int) + (i : Int) < (d.size : Int) := by omega
      have eb : ((b : Int) + (i : Int)).toNat = b + i := by omega
      have pb : (0 : Int) ≤ (b : Int) + (i : Int) := by omega
      have bb : (b : Int) + (i : Int) < (d.size : Int) := by omega
      go_wp2_with fail
      generalize hD : swr d a b i = dk at S1 Hds
      have HD : Hid (swr d a b i = dk) := hD
      clear hD
      have Hs2 : dk.size = d0.size := by have := Hds.out; omega
      obtain ⟨⟨la0, la1⟩, fa0, fa1⟩ := sw_cells S1.out R Hs2 (a + i) (by omega)
      obtain ⟨⟨lb0, lb1⟩, fb0, fb1⟩ := sw_cells S1.out R Hs2 (b + i) (by omega)
      have sl0 := fun v1 v2 => (swap_late (W := wr) (a + i) (b + i) (by omega) v1 v2 (.int .i64 0) lb0 lb1).1
      have sl1 := fun v1 v2 v3 => (swap_late (W := wr) (a + i) (b + i) (by omega) v1 v2 v3 lb0 lb1).2
      have S2 : Aside _ := sw_swap S1.out R (a + i) (b + i) (by omega) (by omega)
      clear S1 Hs2
      go_region
      clear la0 la1 fa0 fa1 lb0 lb1 fb0 fb1 sl0 sl1
      generalize ((((wr.setCell ⟨blk, off + (a + i) * 2, none⟩ (.int .i64 dk[b + i]!.1)).setCell ⟨blk, off + (a + i) * 2 + 1, none⟩ (.int .i64 dk[b + i]!.2)).setCell ⟨blk, off + (b + i) * 2, none⟩ (.int .i64 dk[a + i]!.1)).setCell ⟨blk, off + (b + i) * 2 + 1, none⟩ (.int .i64 dk[a + i]!.2)).drew = w2 at S2 ⊢
      go_wp2
      go_roundg (n - (i + 1))
      case measure => omega
      case rel => exact ⟨i + 1, by go_num, by omega, Nat.le_refl _, by rw [← HD.out] at S2; exact S2⟩
    · obtain rfl : i = n := by omega
      go_wp2
      go_end0
      exact ⟨rfl, S1.out⟩
#print axioms swapRange_any

set_option maxHeartbeats 2000000 in
set_option maxRecDepth 100000 in
theorem rotate_any (g : Value) (blk off cap a m b : Nat) (d0 d : Array (Int × Int)) (w0 w : World)
    (R : Row w0 blk off d0) (hs : d0.size = d.size) (S : SW w0 blk off d w) (ham : a < m) (hmb : m < b) (hb : b ≤ d.size) (hsz : d.size < 4611686018427387904) :
    Calls Try.prog 34 #[.slice (some ⟨blk, off, none⟩) d.size cap, .int .i64 a, .int .i64 m, .int .i64 b, g] w fun e w' => e = .returned (.tuple #[]) ∧ ∃ d', Rot d d' a m b ∧ SW w0 blk off d' w' := by
  have S0 : Aside (SW w0 blk off d w) := S
  clear S
  have e1 : (m : Int) - (a : Int) = ((m - a : Nat) : Int) := by omega
  have e2 : (b : Int) - (m : Int) = ((b - m : Nat) : Int) := by omega
  go_enter Try.func34, Try.ntmps34
  go_wp2
  go_loopg [10, 11] (b - a) (fun kx si sj wr => ∃ (i j : Nat) (dk : Array (Int × Int)), si = .int .i64 i ∧ sj = .int .i64 j ∧ 0 < i ∧ 0 < j ∧ i + a ≤ m ∧ m + j ≤ b ∧ i + j ≤ kx ∧ dk.size = d.size ∧ Aside (SW w0 blk off dk wr) ∧ Aside (∀ d', Rot dk d' (m - i) m (m + j) → Rot d d' a m b))
  case atStart => exact ⟨m - a, b - m, d, rfl, rfl, by omega, by omega, by omega, by omega, by omega, rfl, S0, fun d' h => by rw [show m - (m - a) = a by omega, show m + (b - m) = b by omega] at h; exact h⟩
  case round =>
    clear S0 e1 e2
    obtain ⟨i, j, dk, rfl, rfl, hi, hj, hia, hjb, hkx, hds, S1, H1⟩ := hrel
    have Hds : Hid (dk.size = d.size) := hds
    clear hds
    by_cases hij : i = j
    · subst hij
      have e1 : (m : Int) - (i : Int) = ((m - i : Nat) : Int) := by omega
      have hC := swapRange_any g blk off cap (m - i) m i d0 dk w0 wr R (by rw [Hds.out]; exact hs) S1.out (by omega) (by rw [Hds.out]; omega) (by rw [Hds.out]; omega) (by rw [Hds.out]; exact hsz)
      rw [Hds.out] at hC
      have hR : Aside (Rot d (swr dk (m - i) m i) a m b) := H1.out _ (rot_last dk m i (by omega) (by rw [Hds.out]; omega))
      clear H1 S1
      go_wp2_with (go_at_call 35; refine hC.mono ?_; rintro e w' ⟨rfl, hw⟩)
      go_end0
      exact ⟨rfl, _, hR.out, hw⟩
    · have hne : ((i : Int) != (j : Int)) = true := by rw [bne_iff_ne]; omega
      by_cases hgt : j < i
      · have hgtz : (j : Int) < (i : Int) := by omega
        have e1 : (m : Int) - (i : Int) = ((m - i : Nat) : Int) := by omega
        have e3 : (i : Int) - (j : Int) = ((i - j : Nat) : Int) := by omega
        have hC := swapRange_any g blk off cap (m - i) m j d0 dk w0 wr R (by rw [Hds.out]; exact hs) S1.out (by omega) (by rw [Hds.out]; omega) (by rw [Hds.out]; omega) (by rw [Hds.out]; exact hsz)
        rw [Hds.out] at hC
        have hR : Aside (∀ d', Rot (swr dk (m - i) m j) d' (m - (i - j)) m (m + j) → Rot d d' a m b) := fun d' h => H1.out _ (rot_left m i j hj hgt (by omega) (by rw [Hds.out]; omega) h)
        clear H1 S1
        go_wp2_with (go_at_call 35; refine hC.mono ?_; rintro e w' ⟨rfl, hw⟩)
        go_roundg (i - j + j)
        case measure => omega
        case rel => exact ⟨i - j, j, _, rfl, rfl, by omega, hj, by omega, hjb, by omega, by rw [size_swr]; exact Hds.out, hw, hR⟩
      · have hgtz : ¬ (j : Int) < (i : Int) := by omega
        have e1 : (m : Int) - (i : Int) = ((m - i : Nat) : Int) := by omega
        have e2 : (m : Int) + (j : Int) - (i : Int) = ((m + j - i : Nat) : Int) := by omega
        have e3 : (j : Int) - (i : Int) = ((j - i : Nat) : Int) := by omega
        have hC := swapRange_any g blk off cap (m - i) (m + j - i) i d0 dk w0 wr R (by rw [Hds.out]; exact hs) S1.out (by omega) (by rw [Hds.out]; omega) (by rw [Hds.out]; omega) (by rw [Hds.out]; exact hsz)
        rw [Hds.out] at hC
        have hR : Aside (∀ d', Rot (swr dk (m - i) (m + j - i) i) d' (m - i) m (m + (j - i)) → Rot d d' a m b) := fun d' h => H1.out _ (rot_right m i j hi (by omega) (by omega) (by rw [Hds.out]; omega) h)
        clear H1 S1
        go_wp2_with (go_at_call 35; refine hC.mono ?_; rintro e w' ⟨rfl, hw⟩)
        go_roundg (i + (j - i))
        case measure => omega
        case rel => exact ⟨i, j - i, _, rfl, rfl, hi, by omega, hia, by omega, by omega, by rw [size_swr]; exact Hds.out, hw, hR⟩
#print axioms rotate_any
end Go.Proofs.Qxb6608749a.Stable
