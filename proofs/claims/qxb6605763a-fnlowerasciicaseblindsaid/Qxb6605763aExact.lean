import Derived.Test.Qxb6605763aLowerWalk
namespace Go.Proofs.Qxb6605763a.Exact
open Go.ChangeShapes Go.WideShapes Go.ChangeAt Go.RowKit Go.Lib Lower

theorem bytes_yes (s : ByteArray) (w : World) (h : (s.size : Int) ≤ 1048576) :
    Calls Try.prog 7 #[.string s] w fun e w' => e = .returned (.bool true) ∧ w' = w := by
  go_enter Try.func7, Try.ntmps7
  go_wp2
  go_ret
  exact ⟨rfl, rfl⟩
theorem bytes_no (s : ByteArray) (w : World) (h : 1048576 < (s.size : Int)) :
    Calls Try.prog 7 #[.string s] w fun e w' => e = .returned (.bool false) ∧ w' = w := by
  go_enter Try.func7, Try.ntmps7
  go_wp2
  go_ret
  exact ⟨rfl, rfl⟩

theorem walk_long (s : ByteArray) (w : World) (h : 1048576 < (s.size : Int)) :
    Calls Try.prog 3 #[.string s] w fun e w' => e = .returned (.bool true) ∧ Below w.heap.size w w' := by
  go_enter Try.func3, Try.ntmps3
  go_wp2_with (go_at_call 7; refine (bytes_no _ _ h).mono ?_; rintro e w' ⟨rfl, rfl⟩)
  go_ret
  exact ⟨rfl, Below.refl _ _⟩

theorem xor_all : ∀ n : Nat, n < 256 → bits BinOp.xor IntKind.u8 (n : Int) ((lowB (UInt8.ofNat n)).toNat : Int) = if capN n then 32 else 0 := by
  decide +kernel
theorem xor_low (c : UInt8) : bits BinOp.xor IntKind.u8 (c.toNat : Int) ((lowB c).toNat : Int) = if capN c.toNat then 32 else 0 := by
  have h := xor_all c.toNat c.toNat_lt
  rw [UInt8.ofNat_toNat] at h
  exact h
theorem capN_dec (n : Nat) : capN n = (decide (65 ≤ (n : Int)) && decide ((n : Int) ≤ 90)) := by
  rw [Bool.eq_iff_iff, capN_true, Bool.and_eq_true, decide_eq_true_eq, decide_eq_true_eq]; omega

set_option maxHeartbeats 400000 in
theorem walk_short (s r : ByteArray) (w : World) (h : (s.size : Int) ≤ 1048576) (hC : ∀ W, Calls Try.prog 8 #[.string s] W fun e w' => e = .returned (.string r) ∧ Below W.heap.size W w')
    (hr : r.size = s.size) (hat : ∀ m (h1 : m < s.size) (h2 : m < r.size), r[m] = lowB s[m]) :
    Calls Try.prog 3 #[.string s] w fun e w' => e = .returned (.bool true) ∧ Below w.heap.size w w' := by
  have h0 : ((r.size : Int) != (s.size : Int)) = false := by simp [hr]
  have hr' : Hid (r.size = s.size) := hr
  clear hr
  have hat' : Hid (∀ m (h1 : m < s.size) (h2 : m < r.size), r[m] = lowB s[m]) := hat
  clear hat
  go_enter Try.func3, Try.ntmps3
  go_wp2_with (first | (go_at_call 7; refine (bytes_yes _ _ h).mono ?_; rintro e w1 ⟨rfl, hw⟩; subst hw) | (go_at_call 8; refine (hC _).mono ?_; rintro e w2 ⟨rfl, hb⟩))
  go_loop [4] (fun i => ∃ m : Nat, m ≤ s.size ∧ i = .int .i64 m) (fun i => s.size - (intOf i).toNat)
  case atStart => exact ⟨0, Nat.zero_le _, rfl⟩
  case round =>
    obtain ⟨m, hm, rfl⟩ := hrel
    by_cases hlt : m < s.size
    · have hlr : m < r.size := by rw [hr'.out]; exact hlt
      have e1 := hat'.out m hlt hlr
      have hx := xor_low s[m]
      have hd := lowB_nocap s[m]
      rw [← e1] at hx hd
      rw [capN_dec] at hd
      clear e1
      cases hc : capN s[m].toNat with
      | true =>
        rw [hc, if_pos rfl] at hx
        rw [capN_dec] at hc
        go_wp2_with (go_at_call 9; refine (isCap_any _ _).mono ?_; rintro e w3 ⟨rfl, hw3⟩; subst hw3)
        go_round
        case rel => exact ⟨m + 1, by omega, by go_num⟩
        case measure => simp [intOf]; omega
      | false =>
        rw [hc, if_neg (by decide)] at hx
        clear hc
        go_wp2_with (go_at_call 9; refine (isCap_any _ _).mono ?_; rintro e w3 ⟨rfl, hw3⟩; subst hw3)
        go_round
        case rel => exact ⟨m + 1, by omega, by go_num⟩
        case measure => simp [intOf]; omega
    · go_wp2
      go_ret
      exact ⟨rfl, hb⟩

theorem walk (a0 : ByteArray) (w0 : a0.size ≤ maxLen) (w : World) :
    Calls Try.prog 3 #[.string a0] w fun e w' => e = .returned (.bool true) ∧ Below w.heap.size w w' := by
  by_cases h : 1048576 < (a0.size : Int)
  · exact walk_long a0 w h
  · refine walk_short a0 ⟨(low a0.data.toList).toArray⟩ w (by omega) (fun W => zzlower_any a0 W w0) ?_ ?_
    · show (low a0.data.toList).toArray.size = a0.data.size
      simp [low_length]
    · intro m h1 h2
      show (low a0.data.toList).toArray[m]'_ = lowB a0.data[m]
      simp [low]
#print axioms walk
end Go.Proofs.Qxb6605763a.Exact
