/-
  PLAIN LAWS: the pairs that NewStamp gathers out of the sorted entries.
-/
import Derived.Test.Qxb6608749aBlocks
import Derived.Test.Qxb6608749aFit
namespace Go.Proofs.Qxb6608749a.Law
open Go.Sort Stable

/-- Entry i of the sorted entries is kept: its count is not zero, and it is the last of its process. -/
def kp (d : Array (Int × Int)) (n i : Nat) : Bool := !(d[i]!.2 == 0) && (decide (i + 1 = n) || !(d[i + 1]!.1 == d[i]!.1))
def pr (d : Array (Int × Int)) (n : Nat) : Nat → List (Int × Int)
  | 0 => []
  | i + 1 => if kp d n i then pr d n i ++ [d[i]!] else pr d n i

theorem kp_true {d : Array (Int × Int)} {n i : Nat} (h : kp d n i = true) : d[i]!.2 ≠ 0 ∧ (i + 1 = n ∨ d[i + 1]!.1 ≠ d[i]!.1) := by
  unfold kp at h
  simpa using h
theorem kp_of {d : Array (Int × Int)} {n i : Nat} (h1 : d[i]!.2 ≠ 0) (h2 : i + 1 = n ∨ d[i + 1]!.1 ≠ d[i]!.1) : kp d n i = true := by
  unfold kp
  simpa using ⟨h1, h2⟩

theorem pr_length (d : Array (Int × Int)) (n : Nat) : ∀ i, (pr d n i).length ≤ i
  | 0 => Nat.le_refl _
  | i + 1 => by
    have := pr_length d n i
    unfold pr
    split
    · simp; omega
    · omega
theorem pr_mem {d : Array (Int × Int)} {n : Nat} {x : Int × Int} : ∀ i, x ∈ pr d n i → ∃ j, j < i ∧ x = d[j]! ∧ kp d n j = true
  | 0, h => by simp [pr] at h
  | i + 1, h => by
    unfold pr at h
    by_cases c : kp d n i = true
    · rw [if_pos c, List.mem_append, List.mem_singleton] at h
      rcases h with h | rfl
      · obtain ⟨j, hj, e, k⟩ := pr_mem i h
        exact ⟨j, by omega, e, k⟩
      · exact ⟨i, by omega, rfl, c⟩
    · rw [if_neg c] at h
      obtain ⟨j, hj, e, k⟩ := pr_mem i h
      exact ⟨j, by omega, e, k⟩
theorem pr_has {d : Array (Int × Int)} {n j : Nat} (hk : kp d n j = true) : ∀ i, j < i → d[j]! ∈ pr d n i
  | 0, h => absurd h (by omega)
  | i + 1, h => by
    unfold pr
    by_cases c : j = i
    · subst c; rw [if_pos hk]; simp
    · have := pr_has hk i (by omega)
      split
      · exact List.mem_append_left _ this
      · exact this

/-- A kept entry's process lies below every later one's. -/
theorem kp_lt {d : Array (Int × Int)} {n j t : Nat} (hs : Srt d 0 n) (hk : kp d n j = true) (hjt : j < t) (ht : t < n) : d[j]!.1 < d[t]!.1 := by
  obtain ⟨_, h⟩ := kp_true hk
  rcases h with h | h
  · omega
  · have h1 := hs.le (i := j) (j := j + 1) (by omega) (by omega) (by omega)
    have h2 := hs.le (i := j + 1) (j := t) (by omega) (by omega) ht
    omega

theorem ent_snoc_lt (P : List (Int × Int)) (x : Int × Int) (j : Nat) (h : j < P.length) : ent (P ++ [x]) j = ent P j := by
  unfold ent; rw [List.getD_eq_getElem?_getD, List.getD_eq_getElem?_getD, List.getElem?_append_left h]
theorem ent_snoc_eq (P : List (Int × Int)) (x : Int × Int) : ent (P ++ [x]) P.length = x := by
  unfold ent; rw [List.getD_eq_getElem?_getD]; simp

theorem pr_up {d : Array (Int × Int)} {n : Nat} (hs : Srt d 0 n) : ∀ i, i ≤ n → Up (pr d n i)
  | 0, _ => fun i j _ hj => by simp [pr] at hj
  | i + 1, hi => by
    have ih := pr_up hs i (by omega)
    unfold pr
    by_cases c : kp d n i = true
    · rw [if_pos c]
      intro s t hst ht
      simp only [List.length_append, List.length_singleton] at ht
      by_cases e : t = (pr d n i).length
      · subst e
        rw [ent_snoc_eq, ent_snoc_lt _ _ _ hst]
        obtain ⟨j, hj, ex, kj⟩ := pr_mem i (ent_mem (pr d n i) s hst)
        rw [ex]
        exact kp_lt hs kj hj (by omega)
      · rw [ent_snoc_lt _ _ _ (by omega), ent_snoc_lt _ _ _ (by omega)]
        exact ih s t hst (by omega)
    · rw [if_neg c]; exact ih

theorem lc_cases (l : List (Int × Int)) (p : Int) : ∀ k, (∃ j, j < k ∧ (ent l j).1 = p ∧ lcTo l p k = (ent l j).2 ∧ ∀ t, j < t → t < k → (ent l t).1 ≠ p) ∨ ((∀ j, j < k → (ent l j).1 ≠ p) ∧ lcTo l p k = 0)
  | 0 => .inr ⟨fun j hj => absurd hj (by omega), rfl⟩
  | k + 1 => by
    by_cases c : (ent l k).1 = p
    · exact .inl ⟨k, by omega, c, by rw [lcTo, if_pos c], fun t h1 h2 => by omega⟩
    · rcases lc_cases l p k with ⟨j, h1, h2, h3, h4⟩ | ⟨h1, h2⟩
      · refine .inl ⟨j, by omega, h2, by rw [lcTo, if_neg c]; exact h3, fun t t1 t2 => ?_⟩
        by_cases e : t = k
        · subst e; exact c
        · exact h4 t t1 (by omega)
      · refine .inr ⟨fun j hj => ?_, by rw [lcTo, if_neg c]; exact h2⟩
        by_cases e : j = k
        · subst e; exact c
        · exact h1 j (by omega)

theorem ent_arr (d : Array (Int × Int)) (j : Nat) (h : j < d.size) : ent d.toList j = d[j]! := by
  rw [ent_get d.toList j (by simpa using h), getElem!_pos d j h]; simp

theorem pr_look {d : Array (Int × Int)} (hs : Srt d 0 d.size) (p : Int) : look (pr d d.size d.size) p = lastC d.toList p := by
  have hU := pr_up hs d.size (Nat.le_refl _)
  have hlen : d.toList.length = d.size := by simp
  unfold lastC
  rw [hlen]
  rcases lc_cases d.toList p d.size with ⟨j, h1, h2, h3, h4⟩ | ⟨h1, h2⟩
  · rw [h3]
    rw [ent_arr d j h1] at h2 ⊢
    by_cases c : d[j]!.2 = 0
    · rw [c]
      refine look_none fun t ht e => ?_
      obtain ⟨s, s1, s2, s3⟩ := pr_mem d.size (ent_mem _ t ht)
      rw [s2] at e
      by_cases cs : s = j
      · subst cs; exact (kp_true s3).1 c
      · by_cases cs2 : s < j
        · have := kp_lt hs s3 cs2 h1; omega
        · have h5 := h4 s (by omega) s1
          rw [ent_arr d s s1] at h5
          exact h5 e
    · have hk : kp d d.size j = true := kp_of c (by
        by_cases cn : j + 1 = d.size
        · exact .inl cn
        · refine .inr ?_
          have h5 := h4 (j + 1) (by omega) (by omega)
          rw [ent_arr d (j + 1) (by omega)] at h5
          rw [h2]; exact h5)
      obtain ⟨t, ht, et⟩ := List.getElem_of_mem (pr_has hk d.size h1)
      rw [← ent_get _ t ht] at et
      rw [look_at hU t ht (by rw [et]; exact h2), et]
  · rw [h2]
    refine look_none fun t ht e => ?_
    obtain ⟨s, s1, s2, _⟩ := pr_mem d.size (ent_mem _ t ht)
    rw [s2, ← ent_arr d s s1] at e
    exact h1 s s1 e

/-! ### the last count hangs on each process's own entries alone -/
def lastOf (l : List (Int × Int)) : Int := match l.getLast? with | some x => x.2 | none => 0
theorem lc_filt (l : List (Int × Int)) (p : Int) : ∀ k, k ≤ l.length → lcTo l p k = lastOf (filt p (l.take k))
  | 0, _ => by simp [lcTo, filt, lastOf]
  | k + 1, h => by
    have e : l.take (k + 1) = l.take k ++ [ent l k] := by rw [ent_get l k h, List.take_succ_eq_append_getElem h]
    rw [e, lcTo]
    unfold filt
    rw [List.filter_append]
    by_cases c : (ent l k).1 = p
    · rw [if_pos c, List.filter_cons, if_pos (by simp [c])]
      simp [lastOf]
    · rw [if_neg c, List.filter_cons, if_neg (by simp [c]), List.filter_nil, List.append_nil]
      exact lc_filt l p k (by omega)
theorem lastC_filt (l : List (Int × Int)) (p : Int) : lastC l p = lastOf (filt p l) := by
  unfold lastC
  rw [lc_filt l p l.length (Nat.le_refl _), List.take_length]

/-- P is what a stamp of the entries l holds. -/
structure PairsOf (l P : List (Int × Int)) : Prop where
  up : Up P
  len : P.length ≤ l.length
  nz : ∀ j, j < P.length → (ent P j).2 ≠ 0
  mem : ∀ j, j < P.length → ∃ x ∈ l, (ent P j).1 = x.1
  look : ∀ p, look P p = lastC l p

theorem pairs_of_sorted {l : List (Int × Int)} {d : Array (Int × Int)} (k : Keep 0 l.length l.toArray d) (hs : Srt d 0 l.length) : PairsOf l (pr d l.length l.length) := by
  have hsz : d.size = l.length := by rw [k.size]; simp
  refine ⟨pr_up hs _ (Nat.le_refl _), pr_length _ _ _, fun j hj => ?_, fun j hj => ?_, fun p => ?_⟩
  · obtain ⟨s, _, e, hk⟩ := pr_mem _ (ent_mem _ j hj)
    rw [e]; exact (kp_true hk).1
  · obtain ⟨s, s1, e, hk⟩ := pr_mem _ (ent_mem _ j hj)
    obtain ⟨r, _, r2, e2⟩ := k.mem s (Nat.zero_le _) s1
    rw [e, e2]
    refine ⟨l.toArray[r]!, ?_, rfl⟩
    rw [getElem!_pos l.toArray r (by simpa using r2)]
    simp
  · rw [← hsz, pr_look (by rw [hsz]; exact hs), lastC_filt, lastC_filt, k.filt p]
#print axioms pairs_of_sorted
end Go.Proofs.Qxb6608749a.Law
