/-
  PLAIN LAWS: sorted blocks of one length, merged two by two.
-/
import Derived.Test.Qxb6608749aMerge
namespace Go.Proofs.Qxb6608749a.Stable
open Go.Sort

/-- From place s on, up to n, blocks of bs elements, each sorted (the last one may be shorter). -/
def Blocks (d : Array (Int × Int)) (bs s n : Nat) : Prop := ∀ k, Srt d (s + k * bs) (min (s + k * bs + bs) n)
/-- Ahead of place a = q * B: q blocks of B elements, each sorted. -/
def Done (d : Array (Int × Int)) (B a : Nat) : Prop := ∃ q, a = q * B ∧ ∀ k, k < q → Srt d (k * B) (k * B + B)

theorem Blocks.head {d : Array (Int × Int)} {bs s n : Nat} (h : Blocks d bs s n) : Srt d s (min (s + bs) n) := by
  have := h 0
  rw [Nat.zero_mul, Nat.add_zero] at this
  exact this
theorem Blocks.tail {d : Array (Int × Int)} {bs s n : Nat} (h : Blocks d bs s n) : Blocks d bs (s + bs) n := fun k => by
  have := h (k + 1)
  rw [Nat.succ_mul] at this
  rw [show s + bs + k * bs = s + (k * bs + bs) by omega]
  exact this
theorem Blocks.kept {d d' : Array (Int × Int)} {a b bs s n : Nat} (h : Blocks d bs s n) (k : Keep a b d d') (hs : b ≤ s) : Blocks d' bs s n := fun i => (h i).kept k (.inr (by omega))
theorem Done.kept {d d' : Array (Int × Int)} {a b B : Nat} (h : Done d B a) (k : Keep a b d d') : Done d' B a := by
  obtain ⟨q, hq, h⟩ := h
  refine ⟨q, hq, fun i hi => (h i hi).kept k (.inl ?_)⟩
  have := Nat.mul_le_mul_right B (show i + 1 ≤ q from hi)
  rw [Nat.succ_mul] at this
  omega
theorem Done.zero (d : Array (Int × Int)) (B : Nat) : Done d B 0 := ⟨0, by simp, fun k hk => absurd hk (by omega)⟩
theorem Done.step {d : Array (Int × Int)} {B a : Nat} (h : Done d B a) (hs : Srt d a (a + B)) : Done d B (a + B) := by
  obtain ⟨q, hq, h⟩ := h
  refine ⟨q + 1, by rw [Nat.succ_mul, hq], fun k hk => ?_⟩
  by_cases c : k = q
  · subst c; rw [← hq]; exact hs
  · exact h k (by omega)
/-- All is done but a last, shorter block. -/
theorem Done.blocks {d : Array (Int × Int)} {B a n : Nat} (h : Done d B a) (hn : n < a + B) (hs : Srt d a n) : Blocks d B 0 n := by
  obtain ⟨q, hq, h⟩ := h
  intro k
  rw [Nat.zero_add]
  by_cases c : k < q
  · exact (h k c).mono (Nat.le_refl _) (by omega)
  · by_cases c2 : k = q
    · subst c2; rw [← hq]; exact hs.mono (Nat.le_refl _) (by omega)
    · have := Nat.mul_le_mul_right B (show q + 1 ≤ k by omega)
      rw [Nat.succ_mul] at this
      intro i j i1 ij j2
      omega
theorem Blocks.whole {d : Array (Int × Int)} {bs n : Nat} (h : Blocks d bs 0 n) (hn : n ≤ bs) : Srt d 0 n := h.head.mono (Nat.le_refl _) (by omega)
/-- Blocks of which nothing is known yet but that each is done when its turn comes: for the first loop. -/
theorem srt_empty (d : Array (Int × Int)) (a b : Nat) (h : b ≤ a + 1) : Srt d a b := fun i j i1 ij j2 => by omega
#print axioms Done.blocks
end Go.Proofs.Qxb6608749a.Stable
