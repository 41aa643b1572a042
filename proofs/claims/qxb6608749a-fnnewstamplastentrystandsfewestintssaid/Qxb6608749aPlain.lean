/-
  PLAIN LAWS (no run of the program): rotations, exchanges, what a stable sort keeps.
-/
import Derived.Sort.LotA
import Derived.Sort.WalkA
namespace Go.Proofs.Qxb6608749a.Stable
open Go.Sort

/-! ### the sources of a rotation and of an exchange of ranges -/
/-- Where the element at t comes from when [a, m) and [m, b) change places. -/
def src (a m b t : Nat) : Nat := if t < a ∨ b ≤ t then t else if t < a + (b - m) then t + (m - a) else t - (b - m)
/-- Where the element at t comes from when [a, a+n) and [b, b+n) change places. -/
def xsrc (a b n t : Nat) : Nat := if a ≤ t ∧ t < a + n then t + (b - a) else if b ≤ t ∧ t < b + n then t - (b - a) else t

/-- d' is d with [a, m) and [m, b) changed about. -/
def Rot (d d' : Array (Int × Int)) (a m b : Nat) : Prop := d'.size = d.size ∧ ∀ t, t < d.size → d'[t]! = d[src a m b t]!

/-- 'for i := 0; i < n; i++ { data[a+i], data[b+i] = data[b+i], data[a+i] }'. -/
def swr (d : Array (Int × Int)) (a b : Nat) : Nat → Array (Int × Int)
  | 0 => d
  | n + 1 => swp (swr d a b n) (a + n) (b + n)

theorem size_swr (d : Array (Int × Int)) (a b : Nat) : ∀ n, (swr d a b n).size = d.size
  | 0 => rfl
  | n + 1 => by unfold swr; rw [size_swp, size_swr d a b n]

theorem get_swr (d : Array (Int × Int)) (a b : Nat) : ∀ n, a + n ≤ b → b + n ≤ d.size → ∀ t, t < d.size → (swr d a b n)[t]! = d[xsrc a b n t]!
  | 0, _, _, t, _ => by
    unfold swr xsrc
    rw [if_neg (by omega), if_neg (by omega)]
  | n + 1, h1, h2, t, ht => by
    unfold swr
    rw [swp_get _ (by rw [size_swr]; omega) (by rw [size_swr]; omega)]
    have ih := get_swr d a b n (by omega) (by omega)
    by_cases c1 : t = b + n
    · rw [if_pos c1, ih _ (by omega)]
      congr 1
      unfold xsrc
      repeat' split
      all_goals omega
    · rw [if_neg c1]
      by_cases c2 : t = a + n
      · rw [if_pos c2, ih _ (by omega)]
        congr 1
        unfold xsrc
        repeat' split
        all_goals omega
      · rw [if_neg c2, ih _ ht]
        congr 1
        unfold xsrc
        repeat' split
        all_goals omega

theorem rot_refl (d : Array (Int × Int)) (a b : Nat) : Rot d d a a b := ⟨rfl, fun t _ => by unfold src; congr 1; (repeat' split) <;> omega⟩

theorem rot_none (d : Array (Int × Int)) (a m : Nat) : Rot d d a m m := ⟨rfl, fun t _ => by unfold src; congr 1; (repeat' split) <;> omega⟩
/-- One step of rotateCmpFunc, the left part longer. -/
theorem rot_left {d d' : Array (Int × Int)} (m i j : Nat) (hj : 0 < j) (hij : j < i) (hi : i ≤ m) (hm : m + j ≤ d.size) (h : Rot (swr d (m - i) m j) d' (m - (i - j)) m (m + j)) : Rot d d' (m - i) m (m + j) := by
  obtain ⟨h1, h2⟩ := h
  rw [size_swr] at h1 h2
  refine ⟨h1, fun t ht => ?_⟩
  rw [h2 t ht, get_swr d _ _ _ (by omega) (by omega) _ (by unfold src; (repeat' split) <;> omega)]
  congr 1
  unfold xsrc src
  repeat' split
  all_goals omega
/-- .. the right part longer. -/
theorem rot_right {d d' : Array (Int × Int)} (m i j : Nat) (hi0 : 0 < i) (hij : i < j) (hi : i ≤ m) (hm : m + j ≤ d.size) (h : Rot (swr d (m - i) (m + j - i) i) d' (m - i) m (m + (j - i))) : Rot d d' (m - i) m (m + j) := by
  obtain ⟨h1, h2⟩ := h
  rw [size_swr] at h1 h2
  refine ⟨h1, fun t ht => ?_⟩
  rw [h2 t ht, get_swr d _ _ _ (by omega) (by omega) _ (by unfold src; (repeat' split) <;> omega)]
  congr 1
  unfold xsrc src
  repeat' split
  all_goals omega
/-- .. both of one length: the last exchange. -/
theorem rot_last (d : Array (Int × Int)) (m i : Nat) (hi : i ≤ m) (hm : m + i ≤ d.size) : Rot d (swr d (m - i) m i) (m - i) m (m + i) := by
  refine ⟨size_swr _ _ _ _, fun t ht => ?_⟩
  rw [get_swr d _ _ _ (by omega) (by omega) _ ht]
  congr 1
  unfold xsrc src
  repeat' split
  all_goals omega

/-- One exchange more: an element is carried one place to the right. -/
theorem rot_carry {d d' : Array (Int × Int)} (a k : Nat) (hk : a ≤ k) (hs : k + 1 < d.size) (h : Rot d d' a (a + 1) (k + 1)) : Rot d (swp d' k (k + 1)) a (a + 1) (k + 2) := by
  obtain ⟨h1, h2⟩ := h
  refine ⟨by rw [size_swp]; exact h1, fun t ht => ?_⟩
  rw [swp_get _ (by omega) (by omega)]
  by_cases c1 : t = k + 1
  · rw [if_pos c1, h2 _ (by omega)]
    congr 1
    unfold src
    repeat' split
    all_goals omega
  · rw [if_neg c1]
    by_cases c2 : t = k
    · rw [if_pos c2, h2 _ (by omega)]
      congr 1
      unfold src
      repeat' split
      all_goals omega
    · rw [if_neg c2, h2 _ ht]
      congr 1
      unfold src
      repeat' split
      all_goals omega
/-- .. to the left. -/
theorem rot_carryL {d d' : Array (Int × Int)} (m k : Nat) (hk : k + 1 ≤ m) (hs : m < d.size) (h : Rot d d' (k + 1) m (m + 1)) : Rot d (swp d' (k + 1) k) k m (m + 1) := by
  obtain ⟨h1, h2⟩ := h
  refine ⟨by rw [size_swp]; exact h1, fun t ht => ?_⟩
  rw [swp_get _ (by omega) (by omega)]
  by_cases c1 : t = k
  · rw [if_pos c1, h2 _ (by omega)]
    congr 1
    unfold src
    repeat' split
    all_goals omega
  · rw [if_neg c1]
    by_cases c2 : t = k + 1
    · rw [if_pos c2, h2 _ (by omega)]
      congr 1
      unfold src
      repeat' split
      all_goals omega
    · rw [if_neg c2, h2 _ ht]
      congr 1
      unfold src
      repeat' split
      all_goals omega

/-! ### what is kept -/
/-- The entries of process p, in their order. -/
def filt (p : Int) (l : List (Int × Int)) : List (Int × Int) := l.filter fun x => x.1 == p

/-- d' is d with the places of [a, b) changed about, the entries of each process in their order. -/
structure Keep (a b : Nat) (d d' : Array (Int × Int)) : Prop where
  size : d'.size = d.size
  out : ∀ t, t < a ∨ b ≤ t → d'[t]! = d[t]!
  mem : ∀ t, a ≤ t → t < b → ∃ s, a ≤ s ∧ s < b ∧ d'[t]! = d[s]!
  filt : ∀ p, filt p d'.toList = filt p d.toList

theorem Keep.refl (a b : Nat) (d : Array (Int × Int)) : Keep a b d d := ⟨rfl, fun _ _ => rfl, fun t h1 h2 => ⟨t, h1, h2, rfl⟩, fun _ => rfl⟩
theorem Keep.trans {a b : Nat} {d d' d'' : Array (Int × Int)} (h : Keep a b d d') (k : Keep a b d' d'') : Keep a b d d'' :=
  ⟨k.size.trans h.size, fun t ht => (k.out t ht).trans (h.out t ht), fun t h1 h2 => by
    obtain ⟨s, s1, s2, e⟩ := k.mem t h1 h2
    obtain ⟨r, r1, r2, e2⟩ := h.mem s s1 s2
    exact ⟨r, r1, r2, e.trans e2⟩, fun p => (k.filt p).trans (h.filt p)⟩
theorem Keep.mono {a b a' b' : Nat} {d d' : Array (Int × Int)} (h : Keep a b d d') (ha : a' ≤ a) (hb : b ≤ b') : Keep a' b' d d' :=
  ⟨h.size, fun t ht => h.out t (by omega), fun t h1 h2 => by
    by_cases c : a ≤ t ∧ t < b
    · obtain ⟨s, s1, s2, e⟩ := h.mem t c.1 c.2
      exact ⟨s, by omega, by omega, e⟩
    · exact ⟨t, h1, h2, h.out t (by omega)⟩, h.filt⟩

theorem getE (d : Array (Int × Int)) (t : Nat) (h : t < d.size) : d.toList[t]? = some d[t]! := by
  rw [getElem!_pos d t h]; simp [h]

theorem rot_list {d d' : Array (Int × Int)} {a m b : Nat} (h : Rot d d' a m b) (h1 : a ≤ m) (h2 : m ≤ b) (h3 : b ≤ d.size) :
    d'.toList = d.toList.take a ++ ((d.toList.drop m).take (b - m) ++ ((d.toList.drop a).take (m - a) ++ d.toList.drop b)) := by
  obtain ⟨hs, hg⟩ := h
  have hlen : d.toList.length = d.size := by simp
  apply List.ext_getElem?
  intro t
  by_cases ht : t < d.size
  · rw [getE d' t (by omega), hg t ht]
    have hsrc : src a m b t < d.size := by unfold src; (repeat' split) <;> omega
    rw [← getE d _ hsrc]
    by_cases c1 : t < a
    · rw [List.getElem?_append_left (by simp; omega), List.getElem?_take_of_lt c1]
      congr 1; unfold src; rw [if_pos (.inl c1)]
    · rw [List.getElem?_append_right (by simp; omega)]
      have e1 : (d.toList.take a).length = a := by simp; omega
      rw [e1]
      by_cases c2 : t < a + (b - m)
      · rw [List.getElem?_append_left (by simp; omega), List.getElem?_take_of_lt (by omega), List.getElem?_drop]
        congr 1; unfold src; (repeat' split) <;> omega
      · rw [List.getElem?_append_right (by simp; omega)]
        have e2 : ((d.toList.drop m).take (b - m)).length = b - m := by simp; omega
        rw [e2]
        by_cases c3 : t < b
        · rw [List.getElem?_append_left (by simp; omega), List.getElem?_take_of_lt (by omega), List.getElem?_drop]
          congr 1; unfold src; (repeat' split) <;> omega
        · rw [List.getElem?_append_right (by simp; omega)]
          have e3 : ((d.toList.drop a).take (m - a)).length = m - a := by simp; omega
          rw [e3, List.getElem?_drop]
          congr 1; unfold src; (repeat' split) <;> omega
  · rw [List.getElem?_eq_none (by simp; omega), List.getElem?_eq_none (by simp; omega)]

theorem list_parts (l : List (Int × Int)) (a m b : Nat) (h1 : a ≤ m) (h2 : m ≤ b) :
    l = l.take a ++ ((l.drop a).take (m - a) ++ ((l.drop m).take (b - m) ++ l.drop b)) := by
  conv => lhs; rw [← List.take_append_drop a l]
  congr 1
  conv => lhs; rw [← List.take_append_drop (m - a) (l.drop a)]
  congr 1
  rw [List.drop_drop, show a + (m - a) = m by omega]
  conv => lhs; rw [← List.take_append_drop (b - m) (l.drop m)]
  congr 1
  rw [List.drop_drop, show m + (b - m) = b by omega]

theorem mem_range {d : Array (Int × Int)} {a m : Nat} {x : Int × Int} (hm : m ≤ d.size) (h : x ∈ (d.toList.drop a).take (m - a)) : ∃ i, a ≤ i ∧ i < m ∧ x = d[i]! := by
  obtain ⟨i, hi, rfl⟩ := List.getElem_of_mem h
  simp at hi
  refine ⟨a + i, by omega, by omega, ?_⟩
  rw [getElem!_pos d (a + i) (by omega)]
  simp

/-- Two ranges change places, every process of the second below every process of the first: each process's entries stay in their order. -/
theorem Rot.keep {d d' : Array (Int × Int)} {a m b : Nat} (h : Rot d d' a m b) (h1 : a ≤ m) (h2 : m ≤ b) (h3 : b ≤ d.size)
    (hlt : ∀ i j, a ≤ i → i < m → m ≤ j → j < b → d[j]!.1 < d[i]!.1) : Keep a b d d' := by
  have hl := rot_list h h1 h2 h3
  obtain ⟨hs, hg⟩ := h
  refine ⟨hs, fun t ht => ?_, fun t ht1 ht2 => ?_, fun p => ?_⟩
  · by_cases c : t < d.size
    · rw [hg t c]; unfold src; rw [if_pos ht]
    · rw [getElem!_neg d' t (by omega), getElem!_neg d t (by omega)]
  · refine ⟨src a m b t, ?_, ?_, hg t (by omega)⟩
    · unfold src; repeat' split
      all_goals omega
    · unfold src; repeat' split
      all_goals omega
  · conv => rhs; rw [list_parts d.toList a m b h1 h2]
    rw [hl]
    unfold Stable.filt
    simp only [List.filter_append]
    congr 1
    rw [← List.append_assoc, ← List.append_assoc]
    congr 1
    by_cases c : ((d.toList.drop a).take (m - a)).filter (fun x => x.1 == p) = []
    · rw [c]; simp
    · by_cases c2 : ((d.toList.drop m).take (b - m)).filter (fun x => x.1 == p) = []
      · rw [c2]; simp
      · exfalso
        obtain ⟨x, hx⟩ := List.exists_mem_of_ne_nil _ c
        obtain ⟨y, hy⟩ := List.exists_mem_of_ne_nil _ c2
        rw [List.mem_filter] at hx hy
        obtain ⟨i, i1, i2, rfl⟩ := mem_range (by omega) hx.1
        obtain ⟨j, j1, j2, rfl⟩ := mem_range (by omega) hy.1
        have e1 : d[i]!.1 = p := by simpa using hx.2
        have e2 : d[j]!.1 = p := by simpa using hy.2
        have := hlt i j i1 i2 j1 j2
        omega

/-! ### sorted ranges -/
def Srt (d : Array (Int × Int)) (a b : Nat) : Prop := ∀ i j, a ≤ i → i < j → j < b → d[i]!.1 ≤ d[j]!.1
theorem Srt.le {d : Array (Int × Int)} {a b i j : Nat} (h : Srt d a b) (h1 : a ≤ i) (h2 : i ≤ j) (h3 : j < b) : d[i]!.1 ≤ d[j]!.1 := by
  by_cases c : i = j
  · subst c; exact Int.le_refl _
  · exact h i j h1 (by omega) h3
theorem Srt.mono {d : Array (Int × Int)} {a b a' b' : Nat} (h : Srt d a b) (ha : a ≤ a') (hb : b' ≤ b) : Srt d a' b' := fun i j h1 h2 h3 => h i j (by omega) h2 (by omega)

#print axioms Rot.keep
end Go.Proofs.Qxb6608749a.Stable
