/-
  slices.stableCmpFunc and slices.SortStableFunc at [2]int: sorted, each process's entries in their order.
-/
import Derived.Test.Qxb6608749aSym
import Derived.Test.Qxb6608749aBlocks
import Derived.Deep.DeepCutAuto
namespace Go.Proofs.Qxb6608749a.Stable
open Go.Shelf Go.RowKit Go.Lib Go.Sort

set_option maxHeartbeats 4000000 in
set_option maxRecDepth 100000 in
theorem stable_any (blk off cap n : Nat) (d : Array (Int × Int)) (w0 : World)
    (R : Row w0 blk off d) (hn : d.size = n) (S : SW w0 blk off d w0) (hsz : n < 1099511627776) :
    Calls Try.prog 29 #[.slice (some ⟨blk, off, none⟩) n cap, .int .i64 n, .func (.func 25) #[] #[]] w0 fun e w' => e = .returned (.tuple #[]) ∧ ∃ d', Keep 0 n d d' ∧ Srt d' 0 n ∧ SW w0 blk off d' w' := by
  have S0 : Aside (SW w0 blk off d w0) := S
  have Hn : Hid (d.size = n) := hn
  have HI : Aside (∀ (a b : Nat) (dk : Array (Int × Int)) (w : World), a ≤ b → b ≤ n → dk.size = n → SW w0 blk off dk w →
      Calls Try.prog 32 #[.slice (some ⟨blk, off, none⟩) n cap, .int .i64 a, .int .i64 b, .func (.func 25) #[] #[]] w fun e w' => e = .returned (.tuple #[]) ∧ ∃ d', Keep a b dk d' ∧ Srt d' a b ∧ SW w0 blk off d' w') := fun a b dk w h1 h2 h3 h4 => by
    have h := insertion_any blk off cap a b d dk w0 w R (by omega) h4 h1 (by omega) (by omega)
    rw [hn] at h
    exact h
  have HM : Aside (SymTo blk off cap n (n + 1) w0) := by
    have h := symTo blk off cap d w0 R (by omega) (n + 1)
    rw [hn] at h
    exact h
  clear S hn R
  go_enter Try.func29, Try.ntmps29
  go_wp2
  go_loopg [7, 8] (n + 20) (fun kx sa sb wr => ∃ (a : Nat) (dk : Array (Int × Int)), sa = .int .i64 a ∧ sb = .int .i64 ((a : Int) + 20) ∧ a ≤ n ∧ n + 20 - a ≤ kx ∧ Aside (Keep 0 n d dk) ∧ Aside (Done dk 20 a) ∧ Aside (SW w0 blk off dk wr))
  case atStart => exact ⟨0, d, rfl, rfl, Nat.zero_le _, Nat.le_refl _, Keep.refl _ _ _, Done.zero _ _, S0⟩
  case round =>
    clear S0
    obtain ⟨a, dk, rfl, rfl, han, hkx, HK, HD, S1⟩ := hrel
    by_cases hlt : a + 20 ≤ n
    · have hltz : (a : Int) + 20 ≤ (n : Int) := by omega
      have hC := HI.out a (a + 20) dk wr (by omega) hlt (by rw [HK.out.size]; exact Hn.out) S1.out
      rw [show ((a + 20 : Nat) : Int) = (a : Int) + 20 by omega] at hC
      clear S1
      go_wp2_with (go_at_call 32; refine hC.mono ?_; rintro e w' ⟨rfl, d', hk, hsr, hw⟩)
      go_roundg (n + 20 - (a + 20))
      case measure => omega
      case rel => exact ⟨a + 20, d', by go_num, by go_num, hlt, Nat.le_refl _, HK.out.trans (hk.mono (Nat.zero_le _) hlt), (HD.out.kept hk).step hsr, hw⟩
    · have hltz : ¬ (a : Int) + 20 ≤ (n : Int) := by omega
      have hC := HI.out a n dk wr han (Nat.le_refl _) (by rw [HK.out.size]; exact Hn.out) S1.out
      clear S1
      go_wp2_with (go_at_call 32; refine hC.mono ?_; rintro e w' ⟨rfl, d1, hk, hsr, hw⟩)
      have HK1 : Aside (Keep 0 n d d1) := HK.out.trans (hk.mono (Nat.zero_le _) (Nat.le_refl _))
      have HB1 : Aside (Blocks d1 20 0 n) := (HD.out.kept hk).blocks (by omega) hsr
      have S1 : Aside (SW w0 blk off d1 w') := hw
      clear HK HD hk hsr hw hC
      go_loopg [6] n (fun kx s6 wr => ∃ (bs : Nat) (dk : Array (Int × Int)), s6 = .int .i64 bs ∧ 20 ≤ bs ∧ bs ≤ 2 * n + 20 ∧ n - bs ≤ kx ∧ Aside (Keep 0 n d dk) ∧ Aside (Blocks dk bs 0 n) ∧ Aside (SW w0 blk off dk wr))
      case atStart => exact ⟨20, d1, rfl, by omega, by omega, by omega, HK1, HB1, S1⟩
      case round =>
        clear HK1 HB1 S1
        obtain ⟨bs, dk, rfl, h20, hbs2, hkx2, HK, HB, S1⟩ := hrel
        by_cases hlt2 : bs < n
        · have hltz2 : (bs : Int) < (n : Int) := by omega
          go_wp2
          go_loopg [7, 8] (n + 2 * bs) (fun kx sa sb wr => ∃ (a : Nat) (dj : Array (Int × Int)), sa = .int .i64 a ∧ sb = .int .i64 ((a + 2 * bs : Nat) : Int) ∧ a ≤ n ∧ n + 2 * bs - a ≤ kx ∧ Aside (Keep 0 n d dj) ∧ Aside (Done dj (2 * bs) a) ∧ Aside (Blocks dj bs a n) ∧ Aside (SW w0 blk off dj wr))
          case atStart => exact ⟨0, dk, rfl, by go_num, Nat.zero_le _, Nat.le_refl _, HK, Done.zero _ _, HB, S1⟩
          case round =>
            clear HK HB S1
            obtain ⟨a, dj, rfl, rfl, han, hkx3, HK, HD, HB, S1⟩ := hrel
            by_cases hlt3 : a + 2 * bs ≤ n
            · have hltz3 : (a : Int) + 2 * (bs : Int) ≤ (n : Int) := by omega
              have hA1 : Srt dj a (a + bs) := HB.out.head.mono (Nat.le_refl _) (by omega)
              have hA2 : Srt dj (a + bs) (a + 2 * bs) := HB.out.tail.head.mono (Nat.le_refl _) (by omega)
              have hC := HM.out a (a + bs) (a + 2 * bs) dj wr (by omega) (by omega) hlt3 (by omega) (by rw [HK.out.size]; exact Hn.out) S1.out hA1 hA2
              rw [show ((a + bs : Nat) : Int) = (a : Int) + (bs : Int) by omega, show ((a + 2 * bs : Nat) : Int) = (a : Int) + 2 * (bs : Int) by omega] at hC
              clear S1 hA1 hA2
              go_wp2_with (go_at_call 33; refine hC.mono ?_; rintro e w' ⟨rfl, d', hk, hsr, hw⟩)
              go_roundg (n + 2 * bs - (a + 2 * bs))
              case measure => omega
              case rel => exact ⟨a + 2 * bs, d', by go_num, by go_num, hlt3, Nat.le_refl _, HK.out.trans (hk.mono (Nat.zero_le _) hlt3), (HD.out.kept hk).step hsr, by
                have h1 := HB.out.tail.tail.kept hk (by omega)
                rw [show a + bs + bs = a + 2 * bs by omega] at h1
                exact h1, hw⟩
            · have hltz3 : ¬ (a : Int) + 2 * (bs : Int) ≤ (n : Int) := by omega
              by_cases hlt4 : a + bs < n
              · have hltz4 : (a : Int) + (bs : Int) < (n : Int) := by omega
                have hA1 : Srt dj a (a + bs) := HB.out.head.mono (Nat.le_refl _) (by omega)
                have hA2 : Srt dj (a + bs) n := HB.out.tail.head.mono (Nat.le_refl _) (by omega)
                have hC := HM.out a (a + bs) n dj wr (by omega) (by omega) (Nat.le_refl _) (by omega) (by rw [HK.out.size]; exact Hn.out) S1.out hA1 hA2
                rw [show ((a + bs : Nat) : Int) = (a : Int) + (bs : Int) by omega] at hC
                clear S1 hA1 hA2
                go_wp2_with (go_at_call 33; refine hC.mono ?_; rintro e w' ⟨rfl, d', hk, hsr, hw⟩)
                go_roundg (n - bs * 2)
                case measure => omega
                case rel => exact ⟨bs * 2, d', by go_num, by omega, by omega, Nat.le_refl _, HK.out.trans (hk.mono (Nat.zero_le _) (Nat.le_refl _)), by rw [Nat.mul_comm]; exact (HD.out.kept hk).blocks (by omega) hsr, hw⟩
              · have hltz4 : ¬ (a : Int) + (bs : Int) < (n : Int) := by omega
                have hsr : Aside (Srt dj a n) := HB.out.head.mono (Nat.le_refl _) (by omega)
                go_wp2_with fail
                go_roundg (n - bs * 2)
                case measure => omega
                case rel => exact ⟨bs * 2, dj, by go_num, by omega, by omega, Nat.le_refl _, HK, by rw [Nat.mul_comm]; exact HD.out.blocks (by omega) hsr.out, S1⟩
        · have hltz2 : ¬ (bs : Int) < (n : Int) := by omega
          go_wp2
          go_end0
          exact ⟨rfl, dk, HK.out, HB.out.whole (by omega), S1.out⟩
#print axioms stable_any
end Go.Proofs.Qxb6608749a.Stable
