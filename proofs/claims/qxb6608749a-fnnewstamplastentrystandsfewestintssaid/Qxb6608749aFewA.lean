/-
  FnNewStampLastEntryStandsFewestInts: its bound, the ways out ahead of its stamp; isLastOf, ZZDense, ZZPairs.
-/
import Derived.Test.Qxb6608749aFewP
import Derived.Deep.DeepCutAuto
import Derived.BigQuiet
namespace Go.Proofs.Qxb6608749a.Law
open Go.RowKit Go.Shelf

theorem zz7_any (a : Option Addr) (n cap : Nat) (q : Int) (w : World) :
    Calls Try.prog 7 #[.slice a n cap, .int .i64 q] w fun e w' => e = .returned (.bool (decide (n ≤ 1048576))) ∧ w' = w := by
  by_cases h : n ≤ 1048576
  · have hz : (n : Int) ≤ 1048576 := by omega
    have e : decide (n ≤ 1048576) = true := decide_eq_true h
    rw [e]
    clear e h
    go_enter Try.func7, Try.ntmps7
    go_wp2
    go_ret
    exact ⟨rfl, rfl⟩
  · have hz : (1048576 : Int) < (n : Int) := by omega
    have e : decide (n ≤ 1048576) = false := decide_eq_false h
    rw [e]
    clear e h
    go_enter Try.func7, Try.ntmps7
    go_wp2
    go_ret
    exact ⟨rfl, rfl⟩

set_option maxRecDepth 100000 in
set_option maxHeartbeats 1000000 in
theorem few_early (a : Option Addr) (n cap : Nat) (l : List (Int × Int)) (q : Int) (w : World) (hV : EntV w a n cap l)
    (h : ¬ (n ≤ 4096 ∧ 0 ≤ q ∧ dom l = true)) :
    Calls Try.prog 3 #[.slice a n cap, .int .i64 q] w fun e w' => e = .returned (.bool true) ∧ Below w.heap.size w w' := by
  have hZ := zz7_any a n cap q w
  by_cases h1 : n ≤ 1048576
  case neg =>
    rw [decide_eq_false h1] at hZ
    clear h hV h1
    go_enter Try.func3, Try.ntmps3
    go_wp2_with (go_at_call 7; refine hZ.mono ?_; rintro e w1 ⟨rfl, hw⟩; subst w1)
    go_ret
    exact ⟨rfl, Below.refl _ _⟩
  rw [decide_eq_true h1] at hZ
  have hD := dom_c a n cap l w hV.len hV.ent h1
  clear hV
  by_cases c0 : n ≤ 4096
  case neg =>
    have n0 : (4096 : Int) < (n : Int) := by omega
    clear h hD h1 c0
    go_enter Try.func3, Try.ntmps3
    go_wp2_with (go_at_call 7; refine hZ.mono ?_; rintro e w1 ⟨rfl, hw⟩; subst w1)
    go_ret
    exact ⟨rfl, Below.refl _ _⟩
  have p0 : (n : Int) ≤ 4096 := by omega
  by_cases c1 : 0 ≤ q
  case neg =>
    have n1 : q < 0 := by omega
    clear h hD h1 c0 c1
    go_enter Try.func3, Try.ntmps3
    go_wp2_with (go_at_call 7; refine hZ.mono ?_; rintro e w1 ⟨rfl, hw⟩; subst w1)
    go_ret
    exact ⟨rfl, Below.refl _ _⟩
  have p1 : ¬ (q < 0) := by omega
  have h6 : dom l = false := by
    cases hd : dom l with
    | false => rfl
    | true => exact absurd ⟨c0, c1, hd⟩ h
  rw [h6] at hD
  clear h h6 h1 c0 c1
  go_enter Try.func3, Try.ntmps3
  go_wp2_with (first | (go_at_call 7; refine hZ.mono ?_; rintro e w1 ⟨rfl, hw⟩; subst w1) | (go_at_call 8; refine hD.mono ?_; rintro e w1 ⟨rfl, hw⟩; subst w1))
  go_ret
  exact ⟨rfl, Below.refl _ _⟩

set_option maxHeartbeats 1000000 in
set_option maxRecDepth 100000 in
theorem isLast_any (a : Option Addr) (n cap : Nat) (l : List (Int × Int)) (i : Nat) (w : World) (hn : l.length = n) (hE : Ent w a l) (hl : n ≤ 1048576) (hi : i < n) :
    Calls Try.prog 12 #[.slice a n cap, .int .i64 (i : Int)] w fun e w' => e = .returned (.bool (isL l i)) ∧ Below w.heap.size w w' := by
  obtain ⟨b, o, rfl, ci, _⟩ := hE.at i (by omega)
  obtain ⟨x, hx⟩ : ∃ x, (ent l i).1 = x := ⟨_, rfl⟩
  rw [hx] at ci
  have HX : Hid ((ent l i).1 = x) := hx
  have HE : Aside (Ent w (some ⟨b, o, none⟩) l) := hE
  have HN : Hid (l.length = n) := hn
  have hiz : (i : Int) < (n : Int) := by omega
  have bn : (n : Int) ≤ 1048576 := by omega
  have hbw : b < w.heap.size := World.block_lt_of_cell? _ _ ci
  have HBW : Hid (b < w.heap.size) := hbw
  have HCI : Hid (w.cell? ⟨b, o + i * 2, none⟩ = some (.int .i64 x)) := ci
  have HI : Hid (i < n) := hi
  clear hx hE hn hl hbw hi ci
  go_enter Try.func12, Try.ntmps12
  go_wp2
  go_loopg [5] n (fun kx s wr => ∃ j : Nat, s = .int .i64 j ∧ i < j ∧ j ≤ n ∧ n - j ≤ kx ∧ Aside (Below w.heap.size w wr) ∧ Aside (∀ t, i < t → t < j → (ent l t).1 ≠ x))
  case atStart => exact ⟨i + 1, by go_num, by omega, HI.out, by omega, Below.refl _ _, fun t h1 h2 => by omega⟩
  case round =>
    obtain ⟨j, rfl, hij, hjn, hkx, HB, HT⟩ := hrel
    by_cases hlt : j < n
    · have hltz : (j : Int) < (n : Int) := by omega
      obtain ⟨b', o', e, cj, _⟩ := HE.out.at j (by rw [HN.out]; exact hlt)
      injection e with e
      injection e with ea eb _
      subst ea eb
      have cjr := (HB.out.cell (p := ⟨b, o + j * 2, none⟩) HBW.out).trans cj
      have cir := (HB.out.cell (p := ⟨b, o + i * 2, none⟩) HBW.out).trans HCI.out
      obtain ⟨y, hy⟩ : ∃ y, (ent l j).1 = y := ⟨_, rfl⟩
      rw [hy] at cjr
      have HY : Hid ((ent l j).1 = y) := hy
      have HLT : Hid (j < n) := hlt
      have HIJ : Hid (i < j) := hij
      clear hy cj hlt hjn hij
      by_cases hyx : y = x
      · have hyb : (y == x) = true := beq_iff_eq.2 hyx
        have HYX : Hid (y = x) := hyx
        clear hyx
        go_wp2_with fail
        go_quiet (fail)
        go_wp2
        go_ret
        refine ⟨ret_bool ?_, below_drewN HB.out _⟩
        cases hL : isL l i with
        | false => rfl
        | true => exact absurd (by rw [HY.out, HX.out]; exact HYX.out) (isL_iff.1 hL j HIJ.out (by rw [HN.out]; exact HLT.out))
      · have hyb : (y == x) = false := beq_eq_false_iff_ne.2 hyx
        have HYX : Hid (y ≠ x) := hyx
        clear hyx
        go_wp2_with fail
        go_quiet (fail)
        go_wp2
        go_roundg (n - (j + 1))
        case measure => have := HLT.out; omega
        case rel =>
          refine ⟨j + 1, by go_num, by have := HIJ.out; omega, HLT.out, Nat.le_refl _, below_drewN HB.out _, fun t h1 h2 => ?_⟩
          by_cases e : t = j
          · subst e; rw [HY.out]; exact HYX.out
          · exact HT.out t h1 (by omega)
    · have hltz : ¬ ((j : Int) < (n : Int)) := by omega
      have HJ : Hid (j = n) := show j = n by omega
      clear hlt hjn hkx hij
      go_wp2
      go_ret
      refine ⟨ret_bool ?_, HB.out⟩
      exact (isL_iff.2 fun t h1 h2 => by rw [HX.out]; exact HT.out t h1 (by have := HJ.out; have := HN.out; omega)).symm

theorem dense_any (sa : Option Addr) (sn sc : Nat) (w : World) :
    Calls Try.prog 13 #[.agg #[.slice sa sn sc]] w fun e w' => e = .returned (.slice sa sn sc) ∧ Below w.heap.size w w' := by
  go_enter Try.func13, Try.ntmps13
  go_wp2
  go_ret
  exact ⟨rfl, (Below.refl _ w).alloc (Nat.le_refl _) _⟩
theorem zzpairs_c (sa : Option Addr) (sn sc : Nat) (v : Value) (w : World) (h : ∀ W, Calls Try.prog 23 #[.agg #[.slice sa sn sc]] W fun e w' => e = .returned v ∧ w' = W.alloc (.cells #[.slice sa sn sc] 27)) :
    Calls Try.prog 14 #[.agg #[.slice sa sn sc]] w fun e w' => e = .returned v ∧ Below w.heap.size w w' := by
  go_enter Try.func14, Try.ntmps14
  go_wp2_with (go_at_call 23; refine (h _).mono ?_; rintro e w' ⟨rfl, rfl⟩)
  go_ret
  exact ⟨rfl, ((Below.refl _ w).alloc (Nat.le_refl _) _).alloc (by simp) _⟩
#print axioms zzpairs_c
end Go.Proofs.Qxb6608749a.Law
