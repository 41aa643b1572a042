/-
  The law FnChainYieldsEachUnwrap: her walk.
-/
import Derived.Test.Qxb6605763aChainLen
namespace Go.Proofs.Qxb6605763a.Chain
open Go.RowKit

theorem bytes3_yes (a b c : ByteArray) (w : World) (h : (a.size : Int) + (b.size : Int) + (c.size : Int) ≤ 1048576) :
    Calls Try.prog 13 #[.string a, .string b, .string c] w fun e w' => e = .returned (.bool true) ∧ w' = w := by
  have h1 : (a.size : Int) ≤ 1048576 := by omega
  have h2 : (b.size : Int) ≤ 1048576 := by omega
  have h3 : (c.size : Int) ≤ 1048576 := by omega
  have h4 : (a.size : Int) + (b.size : Int) ≤ 1048576 := by omega
  go_enter Try.func13, Try.ntmps13
  go_wp2
  go_ret
  exact ⟨rfl, rfl⟩

set_option maxHeartbeats 400000 in
theorem bytes3_no (a b c : ByteArray) (w : World) (wa : (a.size : Int) ≤ 9223372036854775807) (wb : (b.size : Int) ≤ 9223372036854775807) (wc : (c.size : Int) ≤ 9223372036854775807) (h : 1048576 < (a.size : Int) + (b.size : Int) + (c.size : Int)) :
    Calls Try.prog 13 #[.string a, .string b, .string c] w fun e w' => e = .returned (.bool false) ∧ w' = w := by
  by_cases h1 : (a.size : Int) ≤ 1048576
  · by_cases h2 : (b.size : Int) ≤ 1048576
    · by_cases h3 : (a.size : Int) + (b.size : Int) ≤ 1048576
      · by_cases h4 : (c.size : Int) ≤ 1048576
        all_goals
          go_enter Try.func13, Try.ntmps13
          go_wp2
          go_ret
          exact ⟨rfl, rfl⟩
      · go_enter Try.func13, Try.ntmps13
        go_wp2
        go_ret
        exact ⟨rfl, rfl⟩
    · go_enter Try.func13, Try.ntmps13
      go_wp2
      go_ret
      exact ⟨rfl, rfl⟩
  · go_enter Try.func13, Try.ntmps13
    go_wp2
    go_ret
    exact ⟨rfl, rfl⟩

theorem walk5_no (a b c : ByteArray) (w : World) (wa : (a.size : Int) ≤ 9223372036854775807) (wb : (b.size : Int) ≤ 9223372036854775807) (wc : (c.size : Int) ≤ 9223372036854775807) (h : 1048576 < (a.size : Int) + (b.size : Int) + (c.size : Int)) :
    Calls Try.prog 5 #[.string a, .string b, .string c] w fun e w' => e = .returned (.bool true) ∧ Below w.heap.size w w' := by
  have hC := bytes3_no a b c w wa wb wc h
  clear h
  go_enter Try.func5, Try.ntmps5
  go_wp2_with (go_at_call 13; refine hC.mono ?_; rintro e w' ⟨rfl, rfl⟩)
  go_ret
  exact ⟨rfl, Below.refl _ _⟩

set_option maxHeartbeats 1000000 in
theorem walk5_yes (a b c : ByteArray) (w : World) (h : (a.size : Int) + (b.size : Int) + (c.size : Int) ≤ 1048576) :
    Calls Try.prog 5 #[.string a, .string b, .string c] w fun e w' => e = .returned (.bool true) ∧ Below w.heap.size w w' := by
  have h1 : (a.size : Int) ≤ 1048576 := by omega
  have h2 : (b.size : Int) ≤ 1048576 := by omega
  have h3 : (c.size : Int) ≤ 1048576 := by omega
  have h4 : (a.size : Int) + (b.size : Int) ≤ 1048576 := by omega
  have hC := bytes3_yes a b c w h
  go_enter Try.func5, Try.ntmps5
  go_wp2_with fail
  refine hC.mono ?_
  rintro e w1 ⟨rfl, hw⟩
  subst hw
  go_wp2_with fail
  refine (zznil _).mono ?_
  rintro e w2 ⟨rfl, hb2⟩
  go_wp2_with fail
  refine (zznew _ _).mono ?_
  rintro e w3 ⟨rfl, hb3⟩
  go_wp2_with fail
  refine (zzurlnil _ _ _).mono ?_
  rintro e w4 ⟨rfl, hb4⟩
  go_wp2_with fail
  refine (zzurl _ _ _ _).mono ?_
  rintro e w5 ⟨rfl, hb5⟩
  go_wp2_with fail
  refine (zzurlurl _ _ _ _).mono ?_
  rintro e w6 ⟨rfl, hb6⟩
  go_wp2
  go_ret
  exact ⟨rfl, hb2.trans ((hb3.trans ((hb4.trans ((hb5.trans (hb6.mono hb5.size)).mono hb4.size)).mono hb3.size)).mono hb2.size)⟩

theorem walk5 (a0 a1 a2 : ByteArray) (w0 : a0.size ≤ maxLen) (w1 : a1.size ≤ maxLen) (w2 : a2.size ≤ maxLen) (w : World) :
    Calls Try.prog 5 #[.string a0, .string a1, .string a2] w fun e w' => e = .returned (.bool true) ∧ Below w.heap.size w w' := by
  unfold maxLen at w0 w1 w2
  by_cases h : (a0.size : Int) + (a1.size : Int) + (a2.size : Int) ≤ 1048576
  · exact walk5_yes a0 a1 a2 w h
  · exact walk5_no a0 a1 a2 w (by omega) (by omega) (by omega) (by omega)
#print axioms walk5
end Go.Proofs.Qxb6605763a.Chain
