/-
  slices.symMergeCmpFunc at [2]int, the first way: m - a == 1.
-/
import Derived.Test.Qxb6608749aSwapRange
import Derived.Test.Qxb6608749aCmp
namespace Go.Proofs.Qxb6608749a.Stable
open Go.Shelf Go.RowKit Go.Lib Go.Sort

set_option maxHeartbeats 4000000 in
set_option maxRecDepth 100000 in
theorem sym1_any (blk off cap a m b : Nat) (d0 d : Array (Int × Int)) (w0 w : World)
    (R : Row w0 blk off d0) (hs : d0.size = d.size) (S : SW w0 blk off d w) (hm : m = a + 1) (hmb : m < b) (hb : b ≤ d.size) (hsz : d.size < 4611686018427387904) (hsrt : Srt d m b) :
    Calls Try.prog 33 #[.slice (some ⟨blk, off, none⟩) d.size cap, .int .i64 a, .int .i64 m, .int .i64 b, .func (.func 25) #[] #[]] w fun e w' => e = .returned (.tuple #[]) ∧ ∃ i d', m ≤ i ∧ i ≤ b ∧ (∀ t, m ≤ t → t < i → d[t]!.1 < d[a]!.1) ∧ (∀ t, i ≤ t → t < b → d[a]!.1 ≤ d[t]!.1) ∧ Rot d d' a m i ∧ SW w0 blk off d' w' := by
  have S0 : Aside (SW w0 blk off d w) := S
  have HS : Aside (Srt d m b) := hsrt
  clear S hsrt
  have e1 : (m : Int) - (a : Int) = 1 := by omega
  have Hm : Hid (m = a + 1) := hm
  clear hm
  have mixed : Try.prog.follows Departure.mixedOrders = true := by kernel_rfl
  go_enter Try.func33, Try.ntmps33
  go_wp2
  go_loopg [10, 11] (b - m) (fun kx si sj wr => ∃ (i j : Nat), si = .int .i64 i ∧ sj = .int .i64 j ∧ m ≤ i ∧ i ≤ j ∧ j ≤ b ∧ j - i ≤ kx ∧ Aside (SW w0 blk off d wr) ∧ Aside (∀ t, m ≤ t → t < i → d[t]!.1 < d[a]!.1) ∧ Aside (∀ t, j ≤ t → t < b → d[a]!.1 ≤ d[t]!.1))
  case atStart => exact ⟨m, b, rfl, rfl, Nat.le_refl _, by omega, Nat.le_refl _, Nat.le_refl _, S0, fun t h1 h2 => by omega, fun t h1 h2 => by omega⟩
  case round =>
    clear S0
    obtain ⟨i, j, rfl, rfl, hmi, hij, hjb, hkx, S1, H1, H2⟩ := hrel
    by_cases hlt : i < j
    · have hltz : (i : Int) < (j : Int) := by omega
      obtain ⟨h, hh⟩ : ∃ h, h = (i + j) / 2 := ⟨_, rfl⟩
      have eh : ((i : Int) + (j : Int)) / 2 = (h : Int) := by omega
      have hih : i ≤ h := by omega
      have hhj : h < j := by omega
      clear hh
      have bh : (h : Int) < (d.size : Int) := by omega
      have ba : (a : Int) < (d.size : Int) := by have := Hm.out; omega
      obtain ⟨lh0, lh1⟩ := sw_cls S1.out R hs.symm h (by omega)
      obtain ⟨la0, la1⟩ := sw_cls S1.out R hs.symm a (by omega)
      have hcg := cmpE_cls d[h]! d[a]! wr
      have hsg : Aside (∀ n os, SW w0 blk off d (grow (wr.drewN n) os)) := fun n os => sw_grown S1.out n os
      by_cases hlv : d[h]!.1 < d[a]!.1
      · have hlv' : cfE d[h]! d[a]! < 0 := cmpI_lt.2 hlv
        go_wp2_with fail
        go_quiet_grown (first | (go_at_call 25; refine Calls.grown_of (hcg _ _)))
        go_wp2
        go_roundg (j - (h + 1))
        case measure => omega
        case rel => exact ⟨h + 1, j, by go_num, rfl, by omega, by omega, hjb, Nat.le_refl _, hsg.out nq osq, fun t h1 h2 => by
          have := HS.out.le (i := t) (j := h) h1 (by omega) (by omega)
          omega, H2⟩
      · have hlv' : ¬ cfE d[h]! d[a]! < 0 := fun c => hlv (cmpI_lt.1 c)
        go_wp2_with fail
        go_quiet_grown (first | (go_at_call 25; refine Calls.grown_of (hcg _ _)))
        go_wp2
        go_roundg (h - i)
        case measure => omega
        case rel => exact ⟨i, h, rfl, rfl, hmi, hih, by omega, Nat.le_refl _, hsg.out nq osq, H1, fun t h1 h2 => by
          have := HS.out.le (i := h) (j := t) (by omega) h1 h2
          omega⟩
    · obtain rfl : i = j := by omega
      have Hm' := Hm.out
      obtain ⟨ip, hip⟩ : ∃ ip, i = ip + 1 := ⟨i - 1, by omega⟩
      have ei : (i : Int) - 1 = (ip : Int) := by omega
      have Hip : Hid (i = ip + 1) := hip
      have bip : a ≤ ip ∧ ip < d.size := by omega
      clear HS hip Hm'
      go_wp2
      go_loopg [13] (ip - a) (fun kx sk wr => ∃ (k : Nat) (dk : Array (Int × Int)), sk = .int .i64 k ∧ a ≤ k ∧ k ≤ ip ∧ ip - k ≤ kx ∧ Aside (Rot d dk a (a + 1) (k + 1)) ∧ Aside (SW w0 blk off dk wr))
      case atStart => exact ⟨a, d, rfl, Nat.le_refl _, bip.1, Nat.le_refl _, rot_none d a (a + 1), S1⟩
      case round =>
        clear S1
        obtain ⟨k, dk, rfl, hak, hki, hkx2, HR, S2⟩ := hrel
        have hdk := HR.out.1
        have Hds : Hid (dk.size = d.size) := hdk
        clear hdk
        by_cases hlt2 : k < ip
        · have hltz : (k : Int) < (ip : Int) := by omega
          have ek : ((k : Int) + 1).toNat = k + 1 := by omega
          have pk : (0 : Int) ≤ (k : Int) + 1 := by omega
          have bk : (k : Int) < (d.size : Int) := by omega
          have bk1 : (k : Int) + 1 < (d.size : Int) := by omega
          have Hs2 : dk.size = d0.size := by have := Hds.out; omega
          obtain ⟨⟨la0, la1⟩, fa0, fa1⟩ := sw_cells S2.out R Hs2 k (by omega)
          obtain ⟨⟨lb0, lb1⟩, fb0, fb1⟩ := sw_cells S2.out R Hs2 (k + 1) (by omega)
          have sl0 := fun v1 v2 => (swap_late (W := wr) k (k + 1) (by omega) v1 v2 (.int .i64 0) lb0 lb1).1
          have sl1 := fun v1 v2 v3 => (swap_late (W := wr) k (k + 1) (by omega) v1 v2 v3 lb0 lb1).2
          have S3 : Aside _ := sw_swap S2.out R k (k + 1) (by omega) (by omega)
          clear S2 Hs2
          go_wp2_with fail
          go_region
          clear la0 la1 fa0 fa1 lb0 lb1 fb0 fb1 sl0 sl1
          generalize ((((wr.setCell ⟨blk, off + k * 2, none⟩ (.int .i64 dk[k + 1]!.1)).setCell ⟨blk, off + k * 2 + 1, none⟩ (.int .i64 dk[k + 1]!.2)).setCell ⟨blk, off + (k + 1) * 2, none⟩ (.int .i64 dk[k]!.1)).setCell ⟨blk, off + (k + 1) * 2 + 1, none⟩ (.int .i64 dk[k]!.2)).drew = w2 at S3 ⊢
          go_wp2
          go_roundg (ip - (k + 1))
          case measure => omega
          case rel => exact ⟨k + 1, swp dk k (k + 1), by go_num, by omega, by omega, Nat.le_refl _, rot_carry a k hak (by omega) HR.out, S3⟩
        · obtain rfl : k = ip := by omega
          go_wp2
          refine bodyPost_ret (results_none rfl _ _ _) rfl ?_
          have h1 := Hip.out
          have h2 := Hm.out
          refine ⟨rfl, i, dk, hmi, hjb, H1.out, H2.out, ?_, S2.out⟩
          rw [h1, h2]
          exact HR.out
#print axioms sym1_any
end Go.Proofs.Qxb6608749a.Stable
