/-
  FnStampedKOneEntryPutIn: its bound, and the ways out ahead of its stamps.
-/
import Derived.Test.Qxb6608749aK
import Derived.Deep.DeepCutAuto
namespace Go.Proofs.Qxb6608749a.Law
open Go.RowKit Go.Shelf

theorem zz19_any (a : Option Addr) (n cap : Nat) (i p c q : Int) (w : World) :
    Calls Try.prog 19 #[.slice a n cap, .int .i64 i, .int .i64 p, .int .i64 c, .int .i64 q] w fun e w' => e = .returned (.bool (decide (n ≤ 1048576))) ∧ w' = w := by
  by_cases h : n ≤ 1048576
  · have hz : (n : Int) ≤ 1048576 := by omega
    have e : decide (n ≤ 1048576) = true := decide_eq_true h
    rw [e]
    clear e h
    go_enter Try.func19, Try.ntmps19
    go_wp2
    go_ret
    exact ⟨rfl, rfl⟩
  · have hz : (1048576 : Int) < (n : Int) := by omega
    have e : decide (n ≤ 1048576) = false := decide_eq_false h
    rw [e]
    clear e h
    go_enter Try.func19, Try.ntmps19
    go_wp2
    go_ret
    exact ⟨rfl, rfl⟩

theorem put_early (a : Option Addr) (n cap : Nat) (l : List (Int × Int)) (i p c q : Int) (w : World) (hV : EntV w a n cap l)
    (h : ¬ (n ≤ 4096 ∧ 0 ≤ i ∧ i ≤ n ∧ 0 ≤ p ∧ p ≠ 9223372036854775807 ∧ 0 ≤ q ∧ dom l = true)) :
    Calls Try.prog 6 #[.slice a n cap, .int .i64 i, .int .i64 p, .int .i64 c, .int .i64 q] w fun e w' => e = .returned (.bool true) ∧ Below w.heap.size w w' := by
  have hZ := zz19_any a n cap i p c q w
  by_cases h1 : n ≤ 1048576
  case neg =>
    rw [decide_eq_false h1] at hZ
    clear h hV h1
    go_enter Try.func6, Try.ntmps6
    go_wp2_with (go_at_call 19; refine hZ.mono ?_; rintro e w1 ⟨rfl, hw⟩; subst w1)
    go_ret
    exact ⟨rfl, Below.refl _ _⟩
  rw [decide_eq_true h1] at hZ
  have hD := dom_c a n cap l w hV.len hV.ent h1
  clear hV
  by_cases c0 : n ≤ 4096
  case neg =>
    have n0 : (4096 : Int) < (n : Int) := by omega
    clear h hD h1 c0
    go_enter Try.func6, Try.ntmps6
    go_wp2_with (go_at_call 19; refine hZ.mono ?_; rintro e w1 ⟨rfl, hw⟩; subst w1)
    go_ret
    exact ⟨rfl, Below.refl _ _⟩
  have p0 : (n : Int) ≤ 4096 := by omega
  by_cases c1 : 0 ≤ i
  case neg =>
    have n1 : i < 0 := by omega
    clear h hD h1 c0 c1
    go_enter Try.func6, Try.ntmps6
    go_wp2_with (go_at_call 19; refine hZ.mono ?_; rintro e w1 ⟨rfl, hw⟩; subst w1)
    go_ret
    exact ⟨rfl, Below.refl _ _⟩
  have p1 : ¬ (i < 0) := by omega
  by_cases c2 : i ≤ (n : Int)
  case neg =>
    have n2 : (n : Int) < i := by omega
    clear h hD h1 c0 c1 c2
    go_enter Try.func6, Try.ntmps6
    go_wp2_with (go_at_call 19; refine hZ.mono ?_; rintro e w1 ⟨rfl, hw⟩; subst w1)
    go_ret
    exact ⟨rfl, Below.refl _ _⟩
  have p2 : ¬ ((n : Int) < i) := by omega
  by_cases c3 : 0 ≤ p
  case neg =>
    have n3 : p < 0 := by omega
    clear h hD h1 c0 c1 c2 c3
    go_enter Try.func6, Try.ntmps6
    go_wp2_with (go_at_call 19; refine hZ.mono ?_; rintro e w1 ⟨rfl, hw⟩; subst w1)
    go_ret
    exact ⟨rfl, Below.refl _ _⟩
  have p3 : ¬ (p < 0) := by omega
  by_cases c4 : p ≠ 9223372036854775807
  case neg =>
    have n4 : (p == 9223372036854775807) = true := by simpa using c4
    clear h hD h1 c0 c1 c2 c3 c4
    go_enter Try.func6, Try.ntmps6
    go_wp2_with (go_at_call 19; refine hZ.mono ?_; rintro e w1 ⟨rfl, hw⟩; subst w1)
    go_ret
    exact ⟨rfl, Below.refl _ _⟩
  have p4 : (p == 9223372036854775807) = false := beq_eq_false_iff_ne.2 c4
  by_cases c5 : 0 ≤ q
  case neg =>
    have n5 : q < 0 := by omega
    clear h hD h1 c0 c1 c2 c3 c4 c5
    go_enter Try.func6, Try.ntmps6
    go_wp2_with (go_at_call 19; refine hZ.mono ?_; rintro e w1 ⟨rfl, hw⟩; subst w1)
    go_ret
    exact ⟨rfl, Below.refl _ _⟩
  have p5 : ¬ (q < 0) := by omega
  have h6 : dom l = false := by
    cases hd : dom l with
    | false => rfl
    | true => exact absurd ⟨c0, c1, c2, c3, c4, c5, hd⟩ h
  rw [h6] at hD
  clear h h6 h1 c0 c1 c2 c3 c4 c5
  go_enter Try.func6, Try.ntmps6
  go_wp2_with (first | (go_at_call 19; refine hZ.mono ?_; rintro e w1 ⟨rfl, hw⟩; subst w1) | (go_at_call 8; refine hD.mono ?_; rintro e w1 ⟨rfl, hw⟩; subst w1))
  go_ret
  exact ⟨rfl, Below.refl _ _⟩
#print axioms put_early
end Go.Proofs.Qxb6608749a.Law
