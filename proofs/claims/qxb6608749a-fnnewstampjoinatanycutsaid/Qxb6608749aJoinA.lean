/-
  FnNewStampJoinAtAnyCut: its bound, and the ways out ahead of its stamps.
-/
import Derived.Test.Qxb6608749aLaws
import Derived.Test.Qxb6608749aOpen
import Derived.Deep.DeepCutAuto
namespace Go.Proofs.Qxb6608749a.Law
open Go.RowKit Go.Shelf

theorem zz15_any (a : Option Addr) (n cap : Nat) (c p : Int) (w : World) :
    Calls Try.prog 15 #[.slice a n cap, .int .i64 c, .int .i64 p] w fun e w' => e = .returned (.bool (decide (n ≤ 1048576))) ∧ w' = w := by
  by_cases h : n ≤ 1048576
  · have hz : (n : Int) ≤ 1048576 := by omega
    have e : decide (n ≤ 1048576) = true := decide_eq_true h
    rw [e]
    clear e h
    go_enter Try.func15, Try.ntmps15
    go_wp2
    go_ret
    exact ⟨rfl, rfl⟩
  · have hz : (1048576 : Int) < (n : Int) := by omega
    have e : decide (n ≤ 1048576) = false := decide_eq_false h
    rw [e]
    clear e h
    go_enter Try.func15, Try.ntmps15
    go_wp2
    go_ret
    exact ⟨rfl, rfl⟩

theorem join_early (a : Option Addr) (n cap : Nat) (l : List (Int × Int)) (c p : Int) (w : World) (hV : EntV w a n cap l)
    (h : ¬ (n ≤ 4096 ∧ 0 ≤ c ∧ c ≤ n ∧ 0 ≤ p ∧ dom l = true)) :
    Calls Try.prog 4 #[.slice a n cap, .int .i64 c, .int .i64 p] w fun e w' => e = .returned (.bool true) ∧ Below w.heap.size w w' := by
  have hZ := zz15_any a n cap c p w
  by_cases h1 : n ≤ 1048576
  · rw [decide_eq_true h1] at hZ
    have hD := dom_c a n cap l w hV.len hV.ent h1
    have h1z : (n : Int) ≤ 1048576 := by omega
    clear hV
    by_cases h2 : n ≤ 4096
    · have h2z : (n : Int) ≤ 4096 := by omega
      by_cases h3 : c < 0
      · clear h hD h1 h2
        go_enter Try.func4, Try.ntmps4
        go_wp2_with (go_at_call 15; refine hZ.mono ?_; rintro e w1 ⟨rfl, hw⟩; subst hw)
        go_ret
        exact ⟨rfl, Below.refl _ _⟩
      · by_cases h4 : (n : Int) < c
        · clear h hD h1 h2
          go_enter Try.func4, Try.ntmps4
          go_wp2_with (go_at_call 15; refine hZ.mono ?_; rintro e w1 ⟨rfl, hw⟩; subst hw)
          go_ret
          exact ⟨rfl, Below.refl _ _⟩
        · by_cases h5 : p < 0
          · clear h hD h1 h2
            go_enter Try.func4, Try.ntmps4
            go_wp2_with (go_at_call 15; refine hZ.mono ?_; rintro e w1 ⟨rfl, hw⟩; subst hw)
            go_ret
            exact ⟨rfl, Below.refl _ _⟩
          · have h6 : dom l = false := by
              cases hd : dom l with
              | false => rfl
              | true => exact absurd ⟨h2, by omega, by omega, by omega, hd⟩ h
            rw [h6] at hD
            clear h h6 h1 h2
            go_enter Try.func4, Try.ntmps4
            go_wp2_with (first | (go_at_call 15; refine hZ.mono ?_; rintro e w1 ⟨rfl, hw⟩; subst hw) | (go_at_call 8; refine hD.mono ?_; rintro e w1 ⟨rfl, hw⟩; subst hw))
            go_ret
            exact ⟨rfl, Below.refl _ _⟩
    · have h2z : (4096 : Int) < (n : Int) := by omega
      clear h hD h1 h2
      go_enter Try.func4, Try.ntmps4
      go_wp2_with (go_at_call 15; refine hZ.mono ?_; rintro e w1 ⟨rfl, hw⟩; subst hw)
      go_ret
      exact ⟨rfl, Below.refl _ _⟩
  · rw [decide_eq_false h1] at hZ
    clear h hV h1
    go_enter Try.func4, Try.ntmps4
    go_wp2_with (go_at_call 15; refine hZ.mono ?_; rintro e w1 ⟨rfl, hw⟩; subst hw)
    go_ret
    exact ⟨rfl, Below.refl _ _⟩
#print axioms join_early
end Go.Proofs.Qxb6608749a.Law
