/-
  FnStampedKIsLastCountOfItsProcess: its bound, and the ways out ahead of its stamp.
-/
import Derived.Test.Qxb6608749aK
import Derived.Deep.DeepCutAuto
namespace Go.Proofs.Qxb6608749a.Law
open Go.RowKit Go.Shelf

theorem zz17_any (a : Option Addr) (n cap : Nat) (p x2 : Int) (s3 : ByteArray) (x4 : Int) (s5 s6 : ByteArray) (x7 x8 : Int) (w : World) :
    Calls Try.prog 17 #[.slice a n cap, .int .i64 p, .int .i64 x2, .string s3, .int .u8 x4, .string s5, .string s6, .int .i64 x7, .int .i64 x8] w fun e w' => e = .returned (.bool (decide (n + s3.size + s5.size + s6.size ≤ 1048576))) ∧ w' = w := by
  by_cases h0 : (n : Int) ≤ 1048576
  case neg =>
    have g0 : 1048576 < (n : Int) := by omega
    rw [decide_eq_false (by omega)]
    clear h0
    go_enter Try.func17, Try.ntmps17
    go_wp2
    go_ret
    exact ⟨rfl, rfl⟩
  by_cases h1 : (s3.size : Int) ≤ 1048576
  case neg =>
    have g1 : 1048576 < (s3.size : Int) := by omega
    rw [decide_eq_false (by omega)]
    clear h1
    go_enter Try.func17, Try.ntmps17
    go_wp2
    go_ret
    exact ⟨rfl, rfl⟩
  by_cases h2 : (n : Int) + (s3.size : Int) ≤ 1048576
  case neg =>
    have g2 : 1048576 < (n : Int) + (s3.size : Int) := by omega
    rw [decide_eq_false (by omega)]
    clear h2
    go_enter Try.func17, Try.ntmps17
    go_wp2
    go_ret
    exact ⟨rfl, rfl⟩
  by_cases h3 : (s5.size : Int) ≤ 1048576
  case neg =>
    have g3 : 1048576 < (s5.size : Int) := by omega
    rw [decide_eq_false (by omega)]
    clear h3
    go_enter Try.func17, Try.ntmps17
    go_wp2
    go_ret
    exact ⟨rfl, rfl⟩
  by_cases h4 : (n : Int) + (s3.size : Int) + (s5.size : Int) ≤ 1048576
  case neg =>
    have g4 : 1048576 < (n : Int) + (s3.size : Int) + (s5.size : Int) := by omega
    rw [decide_eq_false (by omega)]
    clear h4
    go_enter Try.func17, Try.ntmps17
    go_wp2
    go_ret
    exact ⟨rfl, rfl⟩
  by_cases h5 : (s6.size : Int) ≤ 1048576
  case neg =>
    have g5 : 1048576 < (s6.size : Int) := by omega
    rw [decide_eq_false (by omega)]
    clear h5
    go_enter Try.func17, Try.ntmps17
    go_wp2
    go_ret
    exact ⟨rfl, rfl⟩
  by_cases h6 : (n : Int) + (s3.size : Int) + (s5.size : Int) + (s6.size : Int) ≤ 1048576
  case neg =>
    have g6 : 1048576 < (n : Int) + (s3.size : Int) + (s5.size : Int) + (s6.size : Int) := by omega
    rw [decide_eq_false (by omega)]
    clear h6
    go_enter Try.func17, Try.ntmps17
    go_wp2
    go_ret
    exact ⟨rfl, rfl⟩
  rw [decide_eq_true (by omega)]
  go_enter Try.func17, Try.ntmps17
  go_wp2
  go_ret
  exact ⟨rfl, rfl⟩

set_option maxHeartbeats 1000000 in
theorem kl_early (a : Option Addr) (n cap : Nat) (l : List (Int × Int)) (p x2 : Int) (s3 : ByteArray) (x4 : Int) (s5 s6 : ByteArray) (x7 x8 : Int) (w : World) (hV : EntV w a n cap l)
    (h : ¬ (n ≤ 4096 ∧ s3.size ≤ 262144 ∧ s5.size ≤ 262144 ∧ s6.size ≤ 262144 ∧ n + s3.size + s5.size + s6.size ≤ 1048576 ∧ 0 ≤ p ∧ dom l = true)) :
    Calls Try.prog 5 #[.slice a n cap, .int .i64 p, .int .i64 x2, .string s3, .int .u8 x4, .string s5, .string s6, .int .i64 x7, .int .i64 x8] w fun e w' => e = .returned (.bool true) ∧ Below w.heap.size w w' := by
  have hZ := zz17_any a n cap p x2 s3 x4 s5 s6 x7 x8 w
  by_cases h1 : n + s3.size + s5.size + s6.size ≤ 1048576
  case neg =>
    rw [decide_eq_false h1] at hZ
    clear h hV h1
    go_enter Try.func5, Try.ntmps5
    go_wp2_with (go_at_call 17; refine hZ.mono ?_; rintro e w1 ⟨rfl, hw⟩; subst w1)
    go_ret
    exact ⟨rfl, Below.refl _ _⟩
  rw [decide_eq_true h1] at hZ
  have hD := dom_c a n cap l w hV.len hV.ent (by omega)
  clear hV
  by_cases c0 : n ≤ 4096
  case neg =>
    have n0 : (4096 : Int) < (n : Int) := by omega
    clear h hD h1 c0
    go_enter Try.func5, Try.ntmps5
    go_wp2_with (go_at_call 17; refine hZ.mono ?_; rintro e w1 ⟨rfl, hw⟩; subst w1)
    go_ret
    exact ⟨rfl, Below.refl _ _⟩
  have p0 : (n : Int) ≤ 4096 := by omega
  by_cases c1 : s3.size ≤ 262144
  case neg =>
    have n1 : (262144 : Int) < (s3.size : Int) := by omega
    clear h hD h1 c0 c1
    go_enter Try.func5, Try.ntmps5
    go_wp2_with (go_at_call 17; refine hZ.mono ?_; rintro e w1 ⟨rfl, hw⟩; subst w1)
    go_ret
    exact ⟨rfl, Below.refl _ _⟩
  have p1 : (s3.size : Int) ≤ 262144 := by omega
  by_cases c2 : s5.size ≤ 262144
  case neg =>
    have n2 : (262144 : Int) < (s5.size : Int) := by omega
    clear h hD h1 c0 c1 c2
    go_enter Try.func5, Try.ntmps5
    go_wp2_with (go_at_call 17; refine hZ.mono ?_; rintro e w1 ⟨rfl, hw⟩; subst w1)
    go_ret
    exact ⟨rfl, Below.refl _ _⟩
  have p2 : (s5.size : Int) ≤ 262144 := by omega
  by_cases c3 : s6.size ≤ 262144
  case neg =>
    have n3 : (262144 : Int) < (s6.size : Int) := by omega
    clear h hD h1 c0 c1 c2 c3
    go_enter Try.func5, Try.ntmps5
    go_wp2_with (go_at_call 17; refine hZ.mono ?_; rintro e w1 ⟨rfl, hw⟩; subst w1)
    go_ret
    exact ⟨rfl, Below.refl _ _⟩
  have p3 : (s6.size : Int) ≤ 262144 := by omega
  by_cases c4 : 0 ≤ p
  case neg =>
    have n4 : p < 0 := by omega
    clear h hD h1 c0 c1 c2 c3 c4
    go_enter Try.func5, Try.ntmps5
    go_wp2_with (go_at_call 17; refine hZ.mono ?_; rintro e w1 ⟨rfl, hw⟩; subst w1)
    go_ret
    exact ⟨rfl, Below.refl _ _⟩
  have p4 : ¬ (p < 0) := by omega
  have h6 : dom l = false := by
    cases hd : dom l with
    | false => rfl
    | true => exact absurd ⟨c0, c1, c2, c3, h1, c4, hd⟩ h
  rw [h6] at hD
  clear h h6 h1 c0 c1 c2 c3 c4
  go_enter Try.func5, Try.ntmps5
  go_wp2_with (first | (go_at_call 17; refine hZ.mono ?_; rintro e w1 ⟨rfl, hw⟩; subst w1) | (go_at_call 8; refine hD.mono ?_; rintro e w1 ⟨rfl, hw⟩; subst w1))
  go_ret
  exact ⟨rfl, Below.refl _ _⟩
#print axioms kl_early
end Go.Proofs.Qxb6608749a.Law
