/-
  PLAIN LAWS (no run of the program): what strings.IndexFunc finds for 'an ASCII capital', and lowerASCII as a function of bytes.
-/
import Derived.Lib.DecodeN
import Derived.Shelf.GgClosure.StringsIndexFunc
namespace Go.Proofs.Qxb6605763a.Lower

/-- The rune (or byte) is an ASCII capital. -/
def capN (r : Nat) : Bool := decide (65 ≤ r) && decide (r ≤ 90)

theorem capN_false {r : Nat} : capN r = false ↔ r < 65 ∨ 90 < r := by
  simp only [capN, Bool.and_eq_false_iff, decide_eq_false_iff_not]; omega
theorem capN_true {r : Nat} : capN r = true ↔ 65 ≤ r ∧ r ≤ 90 := by
  simp only [capN, Bool.and_eq_true, decide_eq_true_eq]

/-- In front of a rune that is no capital none of its bytes is a capital. -/
theorem decodeN_nocap (n b0 b1 b2 b3 : Nat) (h : capN (Lib.decodeN n b0 b1 b2 b3).1 = false) :
    1 ≤ (Lib.decodeN n b0 b1 b2 b3).2 ∧ (Lib.decodeN n b0 b1 b2 b3).2 ≤ 4 ∧ capN b0 = false ∧ (2 ≤ (Lib.decodeN n b0 b1 b2 b3).2 → capN b1 = false) ∧ (3 ≤ (Lib.decodeN n b0 b1 b2 b3).2 → capN b2 = false) ∧ (4 ≤ (Lib.decodeN n b0 b1 b2 b3).2 → capN b3 = false) := by
  rw [capN_false] at h
  simp only [capN_false]
  unfold Lib.decodeN at h ⊢
  by_cases c0 : b0 < 128
  · simp only [c0, if_true] at h ⊢; omega
  · simp only [c0, if_false] at h ⊢
    clear h
    repeat' split
    all_goals (simp only; omega)

theorem decode_nocap (s : ByteArray) (pos : Nat) (h : capN (Utf8.decode s pos).1 = false) (j : Nat) (h1 : pos ≤ j) (h2 : j < pos + (Utf8.decode s pos).2) : capN (s.get! j).toNat = false := by
  rw [Lib.decode_at] at h h2
  obtain ⟨_, g4, g0, g1, g2, g3⟩ := decodeN_nocap _ _ _ _ _ h
  have hj : j = pos ∨ j = pos + 1 ∨ j = pos + 2 ∨ j = pos + 3 := by omega
  rcases hj with rfl | rfl | rfl | rfl
  · exact g0
  · exact g1 (by omega)
  · exact g2 (by omega)
  · exact g3 (by omega)

theorem decode_pos (s : ByteArray) (pos : Nat) (h : capN (Utf8.decode s pos).1 = false) : 1 ≤ (Utf8.decode s pos).2 := by
  rw [Lib.decode_at] at h ⊢
  exact (decodeN_nocap _ _ _ _ _ h).1

theorem from_spec (s : ByteArray) : ∀ (f pos : Nat), s.size ≤ pos + f →
    (Lib.idxFuncFrom capN true s f pos = -1 ∧ ∀ j, pos ≤ j → j < s.size → capN (s.get! j).toNat = false) ∨
    (∃ k : Nat, Lib.idxFuncFrom capN true s f pos = k ∧ k < s.size ∧ ∀ j, pos ≤ j → j < k → capN (s.get! j).toNat = false)
  | 0, pos, hf => .inl ⟨by simp [Lib.idxFuncFrom], fun j h1 h2 => by omega⟩
  | f + 1, pos, hf => by
    unfold Lib.idxFuncFrom
    by_cases hp : pos < s.size
    · rw [if_pos hp]
      by_cases hc : capN (Utf8.decode s pos).1 = true
      · rw [if_pos hc]
        exact .inr ⟨pos, rfl, hp, fun j h1 h2 => by omega⟩
      · rw [if_neg hc]
        have hc' : capN (Utf8.decode s pos).1 = false := by simpa using hc
        have hw := decode_pos s pos hc'
        have hn := decode_nocap s pos hc'
        rcases from_spec s f (pos + (Utf8.decode s pos).2) (by omega) with ⟨e, g⟩ | ⟨k, e, hk, g⟩
        · refine .inl ⟨e, fun j h1 h2 => ?_⟩
          by_cases hj : j < pos + (Utf8.decode s pos).2
          · exact hn j h1 hj
          · exact g j (by omega) h2
        · refine .inr ⟨k, e, hk, fun j h1 h2 => ?_⟩
          by_cases hj : j < pos + (Utf8.decode s pos).2
          · exact hn j h1 hj
          · exact g j (by omega) h2
    · rw [if_neg hp]
      exact .inl ⟨rfl, fun j h1 h2 => by omega⟩

theorem idx_spec (s : ByteArray) :
    (Lib.idxFunc capN true s = -1 ∧ ∀ j, j < s.size → capN (s.get! j).toNat = false) ∨
    (∃ k : Nat, Lib.idxFunc capN true s = k ∧ k < s.size ∧ ∀ j, j < k → capN (s.get! j).toNat = false) := by
  rcases from_spec s s.size 0 (by omega) with ⟨e, g⟩ | ⟨k, e, hk, g⟩
  · exact .inl ⟨e, fun j h => g j (Nat.zero_le _) h⟩
  · exact .inr ⟨k, e, hk, fun j h => g j (Nat.zero_le _) h⟩

/-- One byte, its ASCII capital in lower case. -/
def lowB (c : UInt8) : UInt8 := if capN c.toNat then c + 32 else c
def low (l : List UInt8) : List UInt8 := l.map lowB

theorem lowB_cap {c : UInt8} (h : capN c.toNat = true) : (lowB c).toNat = c.toNat + 32 := by
  unfold lowB
  rw [if_pos h]
  rw [capN_true] at h
  rw [UInt8.toNat_add]
  have : (32 : UInt8).toNat = 32 := rfl
  omega
theorem lowB_not {c : UInt8} (h : capN c.toNat = false) : lowB c = c := by
  unfold lowB
  rw [if_neg (by simp [h])]
theorem lowB_nocap (c : UInt8) : capN (lowB c).toNat = false := by
  cases h : capN c.toNat with
  | true => rw [lowB_cap h]; rw [capN_true] at h; rw [capN_false]; omega
  | false => rw [lowB_not h]; exact h
theorem lowB_idem (c : UInt8) : lowB (lowB c) = lowB c := lowB_not (lowB_nocap c)
theorem low_idem (l : List UInt8) : low (low l) = low l := by
  unfold low; rw [List.map_map]; exact List.map_congr_left fun c _ => lowB_idem c
theorem low_length (l : List UInt8) : (low l).length = l.length := by unfold low; rw [List.length_map]
theorem low_same {l : List UInt8} (h : ∀ c ∈ l, capN c.toNat = false) : low l = l := by
  unfold low
  exact (List.map_congr_left (f := lowB) (g := id) fun c hc => lowB_not (h c hc)).trans (List.map_id l)
theorem low_eq_iff (l : List UInt8) : low l = l ↔ ∀ c ∈ l, capN c.toNat = false := by
  refine ⟨fun h c hc => ?_, low_same⟩
  rw [← h] at hc
  obtain ⟨d, _, rfl⟩ := List.mem_map.1 hc
  exact lowB_nocap d

#print axioms idx_spec
end Go.Proofs.Qxb6605763a.Lower
