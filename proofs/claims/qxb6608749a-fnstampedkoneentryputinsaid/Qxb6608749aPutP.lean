/-
  One entry put in: plain laws; an own row of entries read as entries.
-/
import Derived.Test.Qxb6608749aK
namespace Go.Proofs.Qxb6608749a.Law
open Go.RowKit Go.Shelf Stable Go.Sort

/-- The entries l with (p, c) put in at place i. -/
def put (l : List (Int × Int)) (i : Nat) (p c : Int) : List (Int × Int) := l.take i ++ (p, c) :: l.drop i
theorem put_length (l : List (Int × Int)) (i : Nat) (p c : Int) (h : i ≤ l.length) : (put l i p c).length = l.length + 1 := by
  unfold put; simp; omega
theorem nm_cons (x : Int × Int) (l : List (Int × Int)) (p : Int) : nm (x :: l) p = (x.1 == p || nm l p) := by unfold nm; simp
theorem lastC_cons (x : Int × Int) (l : List (Int × Int)) (p : Int) : lastC (x :: l) p = if nm l p = true then lastC l p else if x.1 = p then x.2 else 0 := by
  have h := lastC_append [x] l p
  rw [List.singleton_append] at h
  rw [h]
  have e : lastC [x] p = if x.1 = p then x.2 else 0 := by
    unfold lastC
    show lcTo [x] p 1 = _
    rw [lcTo]
    rfl
  rw [e]
theorem put_at (l : List (Int × Int)) (i : Nat) (p c : Int) : lastC (put l i p c) p = if nm (l.drop i) p = true then lastC (l.drop i) p else c := by
  unfold put
  rw [lastC_append, if_pos (by rw [nm_cons]; simp), lastC_cons, if_pos rfl]
theorem put_other (l : List (Int × Int)) (i : Nat) (p c q : Int) (h : q ≠ p) : lastC (put l i p c) q = lastC l q := by
  have e : nm ((p, c) :: l.drop i) q = nm (l.drop i) q := by
    rw [nm_cons]
    have : ((p, c).1 == q) = false := beq_eq_false_iff_ne.2 (fun e => h e.symm)
    rw [this, Bool.false_or]
  unfold put
  rw [lastC_append, e, lastC_cons, lastC_cut l i q]
  by_cases hn : nm (l.drop i) q = true
  · rw [if_pos hn, if_pos hn, if_pos hn]
  · rw [if_neg hn, if_neg hn]
theorem dom_put {l : List (Int × Int)} (h : dom l = true) (i : Nat) (p c : Int) (h0 : 0 ≤ p) (h1 : p ≠ 9223372036854775807) : dom (put l i p c) = true := by
  unfold dom put at *
  rw [List.all_eq_true] at *
  intro x hx
  rcases List.mem_append.1 hx with hx | hx
  · exact h x (List.mem_of_mem_take hx)
  · rcases List.mem_cons.1 hx with rfl | hx
    · unfold okE; simp [h0, h1]
    · exact h x (List.mem_of_mem_drop hx)
theorem le_put {l : List (Int × Int)} (h : ∀ x ∈ l, x.1 ≤ 9223372036854775807) (i : Nat) (p c : Int) (h1 : p ≤ 9223372036854775807) : ∀ x ∈ put l i p c, x.1 ≤ 9223372036854775807 := by
  intro x hx
  unfold put at hx
  rcases List.mem_append.1 hx with hx | hx
  · exact h x (List.mem_of_mem_take hx)
  · rcases List.mem_cons.1 hx with rfl | hx
    · exact h1
    · exact h x (List.mem_of_mem_drop hx)

/-- The entries gathered behind the new one, t of them. -/
def putTo (l : List (Int × Int)) (i : Nat) (p c : Int) (t : Nat) : List (Int × Int) := l.take i ++ (p, c) :: (l.drop i).take t
theorem putTo_zero (l : List (Int × Int)) (i : Nat) (p c : Int) : putTo l i p c 0 = l.take i ++ [(p, c)] := by unfold putTo; simp
theorem putTo_all (l : List (Int × Int)) (i t : Nat) (p c : Int) (h : l.length ≤ i + t) : putTo l i p c t = put l i p c := by
  unfold putTo put
  rw [show (l.drop i).take t = l.drop i from List.take_of_length_le (by rw [List.length_drop]; omega)]
theorem putTo_succ (l : List (Int × Int)) (i t : Nat) (p c : Int) (h : i + t < l.length) : putTo l i p c (t + 1) = putTo l i p c t ++ [ent l (i + t)] := by
  unfold putTo
  rw [take_ent (l.drop i) t (by simp; omega), ent_drop]
  simp
theorem putTo_length (l : List (Int × Int)) (i t : Nat) (p c : Int) (h : i + t ≤ l.length) : (putTo l i p c t).length = i + 1 + t := by
  unfold putTo
  simp
  omega

theorem ent_of_owns {W : World} {n₀ : Nat} {l : List (Int × Int)} {v : Value} (h : W.ownsRow n₀ 29 2 v l.length (flat l)) (h0 : 0 < l.length) : ∃ a cap, v = .slice a l.length cap ∧ Ent W a l := by
  rcases h.2 with ⟨_, e⟩ | ⟨g, cap, cur, rfl, _⟩
  · omega
  · obtain ⟨hH, hg, _⟩ := holds_of_owns h
    refine ⟨_, cap, rfl, .inr ⟨g, 0, rfl, hg, fun j hj => ?_⟩⟩
    have hc := holds_cells hH j (by simpa using hj)
    rw [toArray_get l j hj] at hc
    exact hc.1
/-- make([][2]int, 0, c): an own row with nothing in it. -/
theorem owns_made (W : World) (c : Nat) (hc : c ≤ 5000) : (W.alloc (.cells (madeCells #[.int .i64 0, .int .i64 0] (c * 2)) 29)).ownsRow W.heap.size 29 2 (.slice (some ⟨W.heap.size, 0, none⟩) 0 c) 0 (flat []) := by
  refine ⟨rfl, .inr ⟨W.heap.size, c, _, rfl, Nat.le_refl _, World.alloc_heap_new W _, Nat.zero_le _, by unfold maxLen; omega, size_madeCells _ _, rfl⟩⟩
#print axioms owns_made
end Go.Proofs.Qxb6608749a.Law
