/-
  PLAIN LAWS: why symMerge merges, and stably.
-/
import Derived.Test.Qxb6608749aPlain
namespace Go.Proofs.Qxb6608749a.Stable
open Go.Sort

/-- What the search for the place of the rotation has found. -/
structure Found (d : Array (Int × Int)) (a m b st en : Nat) : Prop where
  h1 : a ≤ st
  h2 : st ≤ m
  h3 : m ≤ en
  h4 : en ≤ b
  up : ∀ i j, st ≤ i → i < m → m ≤ j → j < en → d[j]!.1 < d[i]!.1
  down : ∀ i j, a ≤ i → i < st → en ≤ j → j < b → d[i]!.1 ≤ d[j]!.1

theorem found_of {d : Array (Int × Int)} {a m b mid lo hi st : Nat} (hA : Srt d a m) (hB : Srt d m b) (ham : a < m) (hmb : m < b) (h1 : 2 * mid ≤ a + b) (h2 : a + b ≤ 2 * mid + 1)
    (hc : (mid < m ∧ lo + b = mid + m ∧ hi = mid) ∨ (m ≤ mid ∧ lo = a ∧ hi = m)) (hlo : lo ≤ st) (hhi : st ≤ hi)
    (P1 : ∀ c, lo ≤ c → c < st → d[c]!.1 ≤ d[mid + m - 1 - c]!.1) (P2 : ∀ c, st ≤ c → c < hi → d[mid + m - 1 - c]!.1 < d[c]!.1) :
    Found d a m b st (mid + m - st) := by
  refine ⟨by omega, by omega, by omega, by omega, fun i j hi1 hi2 hj1 hj2 => ?_, fun i j hi1 hi2 hj1 hj2 => ?_⟩
  · have h := P2 st (Nat.le_refl _) (by omega)
    have g1 := hA.le (i := st) (j := i) (by omega) hi1 hi2
    have g2 := hB.le (i := j) (j := mid + m - 1 - st) hj1 (by omega) (by omega)
    omega
  · have h := P1 (st - 1) (by omega) (by omega)
    have g1 := hA.le (i := i) (j := st - 1) hi1 (by omega) (by omega)
    have g2 := hB.le (i := mid + m - 1 - (st - 1)) (j := j) (by omega) (by omega) hj2
    omega

/-- The search's two steps. -/
theorem find_up {d : Array (Int × Int)} {a m b mid lo hi r c : Nat} (hA : Srt d a m) (hB : Srt d m b) (ham : a < m) (hmb : m < b) (h1 : 2 * mid ≤ a + b) (h2 : a + b ≤ 2 * mid + 1)
    (hc : (mid < m ∧ lo + b = mid + m ∧ hi = mid) ∨ (m ≤ mid ∧ lo = a ∧ hi = m)) (hcr : c < r) (hrh : r ≤ hi)
    (h : d[c]!.1 ≤ d[mid + m - 1 - c]!.1) : ∀ t, lo ≤ t → t < c + 1 → d[t]!.1 ≤ d[mid + m - 1 - t]!.1 := by
  intro t t1 t2
  have g1 := hA.le (i := t) (j := c) (by omega) (by omega) (by omega)
  have g2 := hB.le (i := mid + m - 1 - c) (j := mid + m - 1 - t) (by omega) (by omega) (by omega)
  omega
theorem find_down {d : Array (Int × Int)} {a m b mid lo hi st c : Nat} (hA : Srt d a m) (hB : Srt d m b) (ham : a < m) (hmb : m < b) (h1 : 2 * mid ≤ a + b) (h2 : a + b ≤ 2 * mid + 1)
    (hc : (mid < m ∧ lo + b = mid + m ∧ hi = mid) ∨ (m ≤ mid ∧ lo = a ∧ hi = m)) (hls : lo ≤ st) (hsc : st ≤ c)
    (h : d[mid + m - 1 - c]!.1 < d[c]!.1) : ∀ t, c ≤ t → t < hi → d[mid + m - 1 - t]!.1 < d[t]!.1 := by
  intro t t1 t2
  have g1 := hA.le (i := c) (j := t) (by omega) (by omega) (by omega)
  have g2 := hB.le (i := mid + m - 1 - t) (j := mid + m - 1 - c) (by omega) (by omega) (by omega)
  omega

/-- Behind the rotation: two halves, each of two sorted runs, all of the left below all of the right. -/
structure Halves (d : Array (Int × Int)) (a st mid en b : Nat) : Prop where
  s1 : Srt d a st
  s2 : Srt d st mid
  s3 : Srt d mid en
  s4 : Srt d en b
  cross : ∀ i j, a ≤ i → i < mid → mid ≤ j → j < b → d[i]!.1 ≤ d[j]!.1

theorem rot_at {d d' : Array (Int × Int)} {a m b : Nat} (h : Rot d d' a m b) (t : Nat) (ht : t < d.size) : d'[t]! = d[src a m b t]! := h.2 t ht

theorem halves_of {d d' : Array (Int × Int)} {a m b st en mid : Nat} (hA : Srt d a m) (hB : Srt d m b) (F : Found d a m b st en) (hb : b ≤ d.size) (he : mid + m = st + en) (h : Rot d d' st m en) : Halves d' a st mid en b := by
  obtain ⟨f1, f2, f3, f4, up, down⟩ := F
  have L : ∀ t, t < st → d'[t]! = d[t]! := fun t ht => by rw [rot_at h t (by omega)]; congr 1; unfold src; (repeat' split) <;> omega
  have V : ∀ t, st ≤ t → t < mid → d'[t]! = d[t + (m - st)]! := fun t h1 h2 => by rw [rot_at h t (by omega)]; congr 1; unfold src; (repeat' split) <;> omega
  have U : ∀ t, mid ≤ t → t < en → d'[t]! = d[t - (en - m)]! := fun t h1 h2 => by rw [rot_at h t (by omega)]; congr 1; unfold src; (repeat' split) <;> omega
  have T : ∀ t, en ≤ t → t < b → d'[t]! = d[t]! := fun t h1 h2 => by rw [rot_at h t (by omega)]; congr 1; unfold src; (repeat' split) <;> omega
  refine ⟨fun i j i1 ij j2 => ?_, fun i j i1 ij j2 => ?_, fun i j i1 ij j2 => ?_, fun i j i1 ij j2 => ?_, fun i j i1 i2 j1 j2 => ?_⟩
  · rw [L i (by omega), L j (by omega)]; exact hA.le (by omega) (by omega) (by omega)
  · rw [V i (by omega) (by omega), V j (by omega) (by omega)]; exact hB.le (by omega) (by omega) (by omega)
  · rw [U i (by omega) (by omega), U j (by omega) (by omega)]; exact hA.le (by omega) (by omega) (by omega)
  · rw [T i (by omega) (by omega), T j (by omega) (by omega)]; exact hB.le (by omega) (by omega) (by omega)
  · by_cases c1 : i < st
    · rw [L i c1]
      by_cases c2 : j < en
      · rw [U j j1 c2]; exact hA.le (by omega) (by omega) (by omega)
      · rw [T j (by omega) j2]; exact down i j i1 c1 (by omega) j2
    · rw [V i (by omega) i2]
      by_cases c2 : j < en
      · rw [U j j1 c2]
        have := up (j - (en - m)) (i + (m - st)) (by omega) (by omega) (by omega) (by omega)
        omega
      · rw [T j (by omega) j2]; exact hB.le (by omega) (by omega) (by omega)

/-- Two sorted runs that are one: the first or the second is empty. -/
theorem srt_one {d : Array (Int × Int)} {a st mid : Nat} (h1 : Srt d a st) (h2 : Srt d st mid) (h : st ≤ a ∨ mid ≤ st) : Srt d a mid := by
  intro i j i1 ij j2
  rcases h with h | h
  · exact h2 i j (by omega) ij j2
  · exact h1 i j i1 ij (by omega)

/-- What lies outside the places that were changed about is sorted as it was. -/
theorem Srt.kept {d d' : Array (Int × Int)} {a b x y : Nat} (h : Srt d x y) (k : Keep a b d d') (ho : y ≤ a ∨ b ≤ x) : Srt d' x y := by
  intro i j i1 ij j2
  rw [k.out i (by omega), k.out j (by omega)]
  exact h i j i1 ij j2

/-- The end: both halves sorted. -/
theorem merged {d d2 d3 : Array (Int × Int)} {a st mid en b : Nat} (H : Halves d a st mid en b) (K2 : Keep a mid d d2) (S2 : Srt d2 a mid) (K3 : Keep mid b d2 d3) (S3 : Srt d3 mid b) : Srt d3 a b := by
  intro i j i1 ij j2
  by_cases c1 : j < mid
  · rw [K3.out i (by omega), K3.out j (by omega)]
    exact S2 i j i1 ij c1
  · by_cases c2 : mid ≤ i
    · exact S3 i j c2 ij j2
    · rw [K3.out i (by omega)]
      obtain ⟨s, s1, s2, e⟩ := K2.mem i i1 (by omega)
      obtain ⟨r, r1, r2, e2⟩ := K3.mem j (by omega) j2
      rw [e, e2, K2.out r (by omega)]
      exact H.cross s r s1 s2 r1 r2

/-- One element carried into a sorted run, to the right. -/
theorem carried {d d' : Array (Int × Int)} {a m b i : Nat} (hB : Srt d m b) (hm : m = a + 1) (hb : b ≤ d.size) (h1 : m ≤ i) (h2 : i ≤ b) (P1 : ∀ t, m ≤ t → t < i → d[t]!.1 < d[a]!.1) (P2 : ∀ t, i ≤ t → t < b → d[a]!.1 ≤ d[t]!.1) (h : Rot d d' a m i) :
    Keep a b d d' ∧ Srt d' a b := by
  refine ⟨(h.keep (by omega) h1 (by omega) fun x y x1 x2 y1 y2 => ?_).mono (Nat.le_refl _) h2, ?_⟩
  · obtain rfl : x = a := by omega
    exact P1 y y1 y2
  · have V : ∀ t, a ≤ t → t + 1 < i → d'[t]! = d[t + 1]! := fun t h1 h2 => by rw [rot_at h t (by omega)]; congr 1; unfold src; (repeat' split) <;> omega
    have X : ∀ t, t + 1 = i → d'[t]! = d[a]! := fun t h1 => by rw [rot_at h t (by omega)]; congr 1; unfold src; (repeat' split) <;> omega
    have T : ∀ t, i ≤ t → t < b → d'[t]! = d[t]! := fun t h1 h2 => by rw [rot_at h t (by omega)]; congr 1; unfold src; (repeat' split) <;> omega
    intro x y x1 xy y2
    by_cases c1 : x + 1 < i
    · rw [V x x1 c1]
      by_cases c2 : y + 1 < i
      · rw [V y (by omega) c2]; exact hB.le (by omega) (by omega) (by omega)
      · by_cases c3 : y + 1 = i
        · rw [X y c3]; have := P1 (x + 1) (by omega) (by omega); omega
        · rw [T y (by omega) y2]; exact hB.le (by omega) (by omega) (by omega)
    · by_cases c3 : x + 1 = i
      · rw [X x c3, T y (by omega) y2]; exact P2 y (by omega) y2
      · rw [T x (by omega) (by omega), T y (by omega) y2]; exact hB.le (by omega) (by omega) (by omega)
/-- .. to the left. -/
theorem carriedL {d d' : Array (Int × Int)} {a m b i : Nat} (hA : Srt d a m) (hm : b = m + 1) (hb : b ≤ d.size) (h1 : a ≤ i) (h2 : i ≤ m) (P1 : ∀ t, a ≤ t → t < i → d[t]!.1 ≤ d[m]!.1) (P2 : ∀ t, i ≤ t → t < m → d[m]!.1 < d[t]!.1) (h : Rot d d' i m b) :
    Keep a b d d' ∧ Srt d' a b := by
  refine ⟨(h.keep (by omega) (by omega) (by omega) fun x y x1 x2 y1 y2 => ?_).mono h1 (Nat.le_refl _), ?_⟩
  · obtain rfl : y = m := by omega
    exact P2 x x1 x2
  · have L : ∀ t, t < i → d'[t]! = d[t]! := fun t h1 => by rw [rot_at h t (by omega)]; congr 1; unfold src; (repeat' split) <;> omega
    have X : ∀ t, t = i → d'[t]! = d[m]! := fun t h1 => by rw [rot_at h t (by omega)]; congr 1; unfold src; (repeat' split) <;> omega
    have U : ∀ t, i < t → t < b → d'[t]! = d[t - 1]! := fun t h1 h2 => by rw [rot_at h t (by omega)]; congr 1; unfold src; (repeat' split) <;> omega
    intro x y x1 xy y2
    by_cases c1 : x < i
    · rw [L x c1]
      by_cases c2 : y < i
      · rw [L y c2]; exact hA.le (by omega) (by omega) (by omega)
      · by_cases c3 : y = i
        · rw [X y c3]; exact P1 x x1 c1
        · rw [U y (by omega) y2]; exact hA.le (by omega) (by omega) (by omega)
    · by_cases c3 : x = i
      · rw [X x c3, U y (by omega) y2]; have := P2 (y - 1) (by omega) (by omega); omega
      · rw [U x (by omega) (by omega), U y (by omega) y2]; exact hA.le (by omega) (by omega) (by omega)
#print axioms merged
#print axioms carriedL
end Go.Proofs.Qxb6608749a.Stable
