/-
  slices.symMergeCmpFunc at [2]int, the second way: b - m == 1.
-/
import Derived.Test.Qxb6608749aSwapRange
import Derived.Test.Qxb6608749aCmp
namespace Go.Proofs.Qxb6608749a.Stable
open Go.Shelf Go.RowKit Go.Lib Go.Sort

set_option maxHeartbeats 4000000 in
set_option maxRecDepth 100000 in
theorem sym2_any (blk off cap a m b : Nat) (d0 d : Array (Int × Int)) (w0 w : World)
    (R : Row w0 blk off d0) (hs : d0.size = d.size) (S : SW w0 blk off d w) (ham : a < m) (hma : m ≠ a + 1) (hm : b = m + 1) (hb : b ≤ d.size) (hsz : d.size < 4611686018427387904) (hsrt : Srt d a m) :
    Calls Try.prog 33 #[.slice (some ⟨blk, off, none⟩) d.size cap, .int .i64 a, .int .i64 m, .int .i64 b, .func (.func 25) #[] #[]] w fun e w' => e = .returned (.tuple #[]) ∧ ∃ i d', a ≤ i ∧ i ≤ m ∧ (∀ t, a ≤ t → t < i → d[t]!.1 ≤ d[m]!.1) ∧ (∀ t, i ≤ t → t < m → d[m]!.1 < d[t]!.1) ∧ Rot d d' i m b ∧ SW w0 blk off d' w' := by
  have S0 : Aside (SW w0 blk off d w) := S
  have HS : Aside (Srt d a m) := hsrt
  clear S hsrt
  have e0 : ((m : Int) - (a : Int) == 1) = false := beq_eq_false_iff_ne.2 (by omega)
  have e1 : (b : Int) - (m : Int) = 1 := by omega
  have Hm : Hid (b = m + 1) := hm
  have bm : Hid (m < d.size) := show m < d.size by omega
  have bm1 : (m : Int) + 1 ≤ (d.size : Int) := by omega
  clear hm hma
  have mixed : Try.prog.follows Departure.mixedOrders = true := by kernel_rfl
  go_enter Try.func33, Try.ntmps33
  go_wp2
  go_loopg [14, 15] (m - a) (fun kx si sj wr => ∃ (i j : Nat), si = .int .i64 i ∧ sj = .int .i64 j ∧ a ≤ i ∧ i ≤ j ∧ j ≤ m ∧ j - i ≤ kx ∧ Aside (SW w0 blk off d wr) ∧ Aside (∀ t, a ≤ t → t < i → d[t]!.1 ≤ d[m]!.1) ∧ Aside (∀ t, j ≤ t → t < m → d[m]!.1 < d[t]!.1))
  case atStart => exact ⟨a, m, rfl, rfl, Nat.le_refl _, by omega, Nat.le_refl _, Nat.le_refl _, S0, fun t h1 h2 => by omega, fun t h1 h2 => by omega⟩
  case round =>
    clear S0
    obtain ⟨i, j, rfl, rfl, hai, hij, hjm, hkx, S1, H1, H2⟩ := hrel
    by_cases hlt : i < j
    · have hltz : (i : Int) < (j : Int) := by omega
      obtain ⟨h, hh⟩ : ∃ h, h = (i + j) / 2 := ⟨_, rfl⟩
      have eh : ((i : Int) + (j : Int)) / 2 = (h : Int) := by omega
      have hih : i ≤ h := by omega
      have hhj : h < j := by omega
      clear hh
      have bh : (h : Int) < (d.size : Int) := by omega
      have bm' : (m : Int) < (d.size : Int) := by omega
      obtain ⟨lh0, lh1⟩ := sw_cls S1.out R hs.symm h (by omega)
      obtain ⟨la0, la1⟩ := sw_cls S1.out R hs.symm m (by omega)
      have hcg := cmpE_cls d[m]! d[h]! wr
      have hsg : Aside (∀ n os, SW w0 blk off d (grow (wr.drewN n) os)) := fun n os => sw_grown S1.out n os
      by_cases hlv : d[m]!.1 < d[h]!.1
      · have hlv' : cfE d[m]! d[h]! < 0 := cmpI_lt.2 hlv
        go_wp2_with fail
        go_quiet_grown (first | (go_at_call 25; refine Calls.grown_of (hcg _ _)))
        go_wp2
        go_roundg (h - i)
        case measure => omega
        case rel => exact ⟨i, h, rfl, rfl, hai, hih, by omega, Nat.le_refl _, hsg.out nq osq, H1, fun t h1 h2 => by
          have := HS.out.le (i := h) (j := t) (by omega) h1 h2
          omega⟩
      · have hlv' : (!decide (cfE d[m]! d[h]! < 0)) = true := not_cf hlv
        go_wp2_with fail
        go_quiet_grown (first | (go_at_call 25; refine Calls.grown_of (hcg _ _)))
        go_wp2
        go_roundg (j - (h + 1))
        case measure => omega
        case rel => exact ⟨h + 1, j, by go_num, rfl, by omega, by omega, hjm, Nat.le_refl _, hsg.out nq osq, fun t h1 h2 => by
          have := HS.out.le (i := t) (j := h) h1 (by omega) (by omega)
          omega, H2⟩
    · obtain rfl : i = j := by omega
      clear HS
      go_wp2
      go_loopg [17] (m - i) (fun kx sk wr => ∃ (k : Nat) (dk : Array (Int × Int)), sk = .int .i64 k ∧ i ≤ k ∧ k ≤ m ∧ k - i ≤ kx ∧ Aside (Rot d dk k m (m + 1)) ∧ Aside (SW w0 blk off dk wr))
      case atStart => exact ⟨m, d, rfl, hjm, Nat.le_refl _, Nat.le_refl _, rot_refl d m (m + 1), S1⟩
      case round =>
        clear S1
        obtain ⟨k, dk, rfl, hik, hkm, hkx2, HR, S2⟩ := hrel
        have hdk := HR.out.1
        have Hds : Hid (dk.size = d.size) := hdk
        clear hdk
        by_cases hlt2 : i < k
        · have hltz : (i : Int) < (k : Int) := by omega
          obtain ⟨kp, hkp⟩ : ∃ kp, k = kp + 1 := ⟨k - 1, by omega⟩
          have ekp : (k : Int) - 1 = (kp : Int) := by omega
          have bk : (k : Int) < (d.size : Int) := by omega
          have bk1 : (kp : Int) < (d.size : Int) := by omega
          have Hs2 : dk.size = d0.size := by have := Hds.out; omega
          obtain ⟨⟨la0, la1⟩, fa0, fa1⟩ := sw_cells S2.out R Hs2 k (by omega)
          obtain ⟨⟨lb0, lb1⟩, fb0, fb1⟩ := sw_cells S2.out R Hs2 kp (by omega)
          have sl0 := fun v1 v2 => (swap_late (W := wr) k kp (by omega) v1 v2 (.int .i64 0) lb0 lb1).1
          have sl1 := fun v1 v2 v3 => (swap_late (W := wr) k kp (by omega) v1 v2 v3 lb0 lb1).2
          have S3 : Aside _ := sw_swap S2.out R k kp (by omega) (by omega)
          have Hkp : Hid (k = kp + 1) := hkp
          clear S2 Hs2 hkp
          go_wp2_with fail
          go_region
          clear la0 la1 fa0 fa1 lb0 lb1 fb0 fb1 sl0 sl1
          generalize ((((wr.setCell ⟨blk, off + k * 2, none⟩ (.int .i64 dk[kp]!.1)).setCell ⟨blk, off + k * 2 + 1, none⟩ (.int .i64 dk[kp]!.2)).setCell ⟨blk, off + kp * 2, none⟩ (.int .i64 dk[k]!.1)).setCell ⟨blk, off + kp * 2 + 1, none⟩ (.int .i64 dk[k]!.2)).drew = w2 at S3 ⊢
          go_wp2
          have hk := Hkp.out
          subst hk
          go_roundg (kp - i)
          case measure => omega
          case rel => exact ⟨kp, swp dk (kp + 1) kp, rfl, by omega, by omega, Nat.le_refl _, rot_carryL m kp hkm bm.out HR.out, S3⟩
        · obtain rfl : k = i := by omega
          go_wp2
          refine bodyPost_ret (results_none rfl _ _ _) rfl ?_
          have h1 := Hm.out
          refine ⟨rfl, k, dk, hai, hjm, H1.out, H2.out, ?_, S2.out⟩
          rw [h1]
          exact HR.out
#print axioms sym2_any
end Go.Proofs.Qxb6608749a.Stable
