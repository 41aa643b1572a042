/-
  FnLowerASCIICaseBlind: lawHasCap and the law's walk.
-/
import Derived.Test.Qxb6605763aBlind
namespace Go.Proofs.Qxb6605763a.Blind
open Go.ChangeShapes Go.WideShapes Go.ChangeAt Go.RowKit Go.Lib Lower

/-- lawHasCap. -/
def hasCap (s : ByteArray) : Bool := s.data.toList.any fun c => capN c.toNat

theorem hasCap_true {s : ByteArray} (m : Nat) (h : m < s.size) (hc : capN s[m].toNat = true) : hasCap s = true := by
  unfold hasCap
  rw [List.any_eq_true]
  exact ⟨s.data.toList[m]'h, List.getElem_mem _, hc⟩
theorem hasCap_false {s : ByteArray} (h : ∀ m (h : m < s.size), capN s[m].toNat = false) : hasCap s = false := by
  unfold hasCap
  rw [List.any_eq_false]
  intro c hc
  obtain ⟨m, hm, rfl⟩ := List.getElem_of_mem hc
  have := h m hm
  simp only [Bool.not_eq_true]
  exact this

theorem isCap_yes (c : Nat) (w : World) (h : capN c = true) :
    Calls Try.prog 9 #[.int .u8 (c : Int)] w fun e w' => e = .returned (.bool true) ∧ w' = w := by
  refine (isCap_any (c : Int) w).mono fun e w' ⟨he, hw⟩ => ⟨?_, hw⟩
  rw [he, ← Exact.capN_dec, h]
theorem isCap_no (c : Nat) (w : World) (h : capN c = false) :
    Calls Try.prog 9 #[.int .u8 (c : Int)] w fun e w' => e = .returned (.bool false) ∧ w' = w := by
  refine (isCap_any (c : Int) w).mono fun e w' ⟨he, hw⟩ => ⟨?_, hw⟩
  rw [he, ← Exact.capN_dec, h]

theorem ret_bool {a b : Bool} (h : a = b) : Ending.returned (.bool a) = .returned (.bool b) := by rw [h]

set_option maxHeartbeats 400000 in
theorem hasCap_any (s : ByteArray) (w : World) (hs : s.size ≤ 1048576) :
    Calls Try.prog 12 #[.string s] w fun e w' => e = .returned (.bool (hasCap s)) ∧ w' = w := by
  go_enter Try.func12, Try.ntmps12
  go_wp2
  go_loop [3] (fun i => ∃ m : Nat, m ≤ s.size ∧ i = .int .i64 m ∧ Hid (∀ j (h : j < s.size), j < m → capN s[j].toNat = false)) (fun i => s.size - (intOf i).toNat)
  case atStart => exact ⟨0, Nat.zero_le _, rfl, fun j _ h => absurd h (by omega)⟩
  case round =>
    obtain ⟨m, hm, rfl, hz⟩ := hrel
    by_cases hlt : m < s.size
    · cases hc : capN s[m].toNat with
      | true =>
        have H1 : Hid (hasCap s = true) := hasCap_true m hlt hc
        have hC := isCap_yes s[m].toNat w hc
        clear hc
        go_wp2_with (go_at_call 9; refine hC.mono ?_; rintro e w3 ⟨rfl, hw3⟩; subst hw3)
        go_ret
        exact ⟨ret_bool H1.out.symm, rfl⟩
      | false =>
        have hC := isCap_no s[m].toNat w hc
        have hc' : Hid (capN s[m].toNat = false) := hc
        clear hc
        go_wp2_with (go_at_call 9; refine hC.mono ?_; rintro e w3 ⟨rfl, hw3⟩; subst hw3)
        go_round
        case rel =>
          refine ⟨m + 1, by omega, by go_num, fun j hj hjm => ?_⟩
          by_cases e : j = m
          · subst e; exact hc'.out
          · exact hz.out j hj (by omega)
        case measure => simp [intOf]; omega
    · have H1 : Hid (hasCap s = false) := hasCap_false fun j hj => hz.out j hj (by omega)
      clear hz
      go_wp2
      go_ret
      exact ⟨ret_bool H1.out.symm, rfl⟩

theorem bytes_yes (s : ByteArray) (w : World) (h : (s.size : Int) ≤ 1048576) :
    Calls Try.prog 10 #[.string s] w fun e w' => e = .returned (.bool true) ∧ w' = w := by
  go_enter Try.func10, Try.ntmps10
  go_wp2
  go_ret
  exact ⟨rfl, rfl⟩
theorem bytes_no (s : ByteArray) (w : World) (h : 1048576 < (s.size : Int)) :
    Calls Try.prog 10 #[.string s] w fun e w' => e = .returned (.bool false) ∧ w' = w := by
  go_enter Try.func10, Try.ntmps10
  go_wp2
  go_ret
  exact ⟨rfl, rfl⟩

theorem walk_long (s : ByteArray) (w : World) (h : 1048576 < (s.size : Int)) :
    Calls Try.prog 4 #[.string s] w fun e w' => e = .returned (.bool true) ∧ Below w.heap.size w w' := by
  go_enter Try.func4, Try.ntmps4
  go_wp2_with (go_at_call 10; refine (bytes_no _ _ h).mono ?_; rintro e w' ⟨rfl, rfl⟩)
  go_ret
  exact ⟨rfl, Below.refl _ _⟩

set_option maxHeartbeats 1000000 in
theorem walk_short (s r t : ByteArray) (w : World) (h : (s.size : Int) ≤ 1048576)
    (hC1 : ∀ W, Calls Try.prog 8 #[.string s] W fun e w' => e = .returned (.string r) ∧ Below W.heap.size W w')
    (hC2 : ∀ W, Calls Try.prog 11 #[.string s] W fun e w' => e = .returned (.string t) ∧ Below W.heap.size W w')
    (hC3 : ∀ W, Calls Try.prog 8 #[.string t] W fun e w' => e = .returned (.string r) ∧ Below W.heap.size W w')
    (hC4 : ∀ W, Calls Try.prog 8 #[.string r] W fun e w' => e = .returned (.string r) ∧ Below W.heap.size W w')
    (B : Bool) (hB : (r == s) = !B)
    (hC5 : ∀ W, Calls Try.prog 12 #[.string s] W fun e w' => e = .returned (.bool B) ∧ w' = W) :
    Calls Try.prog 4 #[.string s] w fun e w' => e = .returned (.bool true) ∧ Below w.heap.size w w' := by
  rw [beq_toListBytes] at hB
  have hE : (r.toList == s.toList) = !B := hB
  clear hB
  go_enter Try.func4, Try.ntmps4
  go_wp2_with (go_at_call 10; refine (bytes_yes _ _ h).mono ?_; rintro e w1 ⟨rfl, hw⟩; subst hw)
  refine (hC1 _).mono ?_
  rintro e w2 ⟨rfl, hb2⟩
  go_wp2_with fail
  refine (hC2 _).mono ?_
  rintro e w3 ⟨rfl, hb3⟩
  go_wp2_with fail
  refine (hC3 _).mono ?_
  rintro e w4 ⟨rfl, hb4⟩
  go_wp2_with fail
  refine (hC4 _).mono ?_
  rintro e w5 ⟨rfl, hb5⟩
  go_wp2_with fail
  refine (hC5 _).mono ?_
  rintro e w6 ⟨rfl, hw6⟩
  subst hw6
  have hb : Below w1.heap.size w1 w6 := hb2.trans ((hb3.trans ((hb4.trans (hb5.mono hb4.size)).mono hb3.size)).mono hb2.size)
  go_wp2
  go_ret
  exact ⟨rfl, hb⟩

theorem beq_data (a b : ByteArray) : (a == b) = (a.data == b.data) := by cases a; cases b; rfl

theorem walk (a0 : ByteArray) (w0 : a0.size ≤ maxLen) (w : World) :
    Calls Try.prog 4 #[.string a0] w fun e w' => e = .returned (.bool true) ∧ Below w.heap.size w w' := by
  by_cases h : 1048576 < (a0.size : Int)
  · exact walk_long a0 w h
  · have hsz : (⟨(swap a0.data.toList).toArray⟩ : ByteArray).size = a0.size := by
      show (swap a0.data.toList).toArray.size = a0.data.size
      simp [swap]
    have hsr : (⟨(low a0.data.toList).toArray⟩ : ByteArray).size = a0.size := by
      show (low a0.data.toList).toArray.size = a0.data.size
      simp [low]
    refine walk_short a0 ⟨(low a0.data.toList).toArray⟩ ⟨(swap a0.data.toList).toArray⟩ w (by omega) (fun W => zzlower_any a0 W w0) (fun W => swap_any a0 W (by omega)) (fun W => ?_) (fun W => ?_) (hasCap a0) ?_ (fun W => hasCap_any a0 W (by omega))
    · have h1 := zzlower_any ⟨(swap a0.data.toList).toArray⟩ W (by rw [hsz]; exact w0)
      have e : low (swap a0.data.toList).toArray.toList = low a0.data.toList := low_swap _
      rw [e] at h1
      exact h1
    · have h1 := zzlower_any ⟨(low a0.data.toList).toArray⟩ W (by rw [hsr]; exact w0)
      have e : low (low a0.data.toList).toArray.toList = low a0.data.toList := low_idem _
      rw [e] at h1
      exact h1
    · cases hc : hasCap a0 with
      | true =>
        simp only [Bool.not_true]
        rw [beq_data, beq_eq_false_iff_ne]
        intro e
        have e2 : low a0.data.toList = a0.data.toList := congrArg Array.toList e
        rw [low_eq_iff] at e2
        unfold hasCap at hc
        rw [List.any_eq_true] at hc
        obtain ⟨c, hm, hcc⟩ := hc
        rw [e2 c hm] at hcc
        cases hcc
      | false =>
        simp only [Bool.not_false]
        rw [beq_data, beq_iff_eq]
        unfold hasCap at hc
        rw [List.any_eq_false] at hc
        have e : low a0.data.toList = a0.data.toList := low_same fun c hm => by simpa using hc c hm
        rw [e]
#print axioms walk
end Go.Proofs.Qxb6605763a.Blind
