/-
  PLAIN: how many components a stamp of the entries holds, and the highest.
-/
import Derived.Test.Qxb6608749aK
namespace Go.Proofs.Qxb6608749a.Law
open Go.RowKit Go.Shelf Stable

/-- No later entry names the process of entry i. -/
def isL (l : List (Int × Int)) (i : Nat) : Bool := !(nm (l.drop (i + 1)) (ent l i).1)
def kept (l : List (Int × Int)) (i : Nat) : Bool := isL l i && !((ent l i).2 == 0)
def keys (l : List (Int × Int)) : Nat → List Int
  | 0 => []
  | k + 1 => if kept l k = true then keys l k ++ [(ent l k).1] else keys l k
def mx (l : List (Int × Int)) : Nat → Int
  | 0 => -1
  | k + 1 => if kept l k = true then (if mx l k < (ent l k).1 then (ent l k).1 else mx l k) else mx l k

theorem keys_len (l : List (Int × Int)) : ∀ k, (keys l k).length ≤ k
  | 0 => Nat.le_refl _
  | k + 1 => by
    have := keys_len l k
    unfold keys
    split
    · simp; omega
    · omega
theorem nm_at {l : List (Int × Int)} {p : Int} (h : nm l p = true) : ∃ j, j < l.length ∧ (ent l j).1 = p := by
  unfold nm at h
  rw [List.any_eq_true] at h
  obtain ⟨x, hx, e⟩ := h
  obtain ⟨j, hj, rfl⟩ := List.getElem_of_mem hx
  exact ⟨j, hj, by rw [ent_get l j hj]; simpa using e⟩
theorem isL_iff {l : List (Int × Int)} {i : Nat} : isL l i = true ↔ ∀ t, i < t → t < l.length → (ent l t).1 ≠ (ent l i).1 := by
  unfold isL
  constructor
  · intro h t h1 h2 e
    have hn : nm (l.drop (i + 1)) (ent l i).1 = true := nm_true (t - (i + 1)) (by rw [List.length_drop]; omega) (by rw [ent_drop, show i + 1 + (t - (i + 1)) = t by omega]; exact e)
    rw [hn] at h
    cases h
  · intro h
    have hn : nm (l.drop (i + 1)) (ent l i).1 = false := nm_false fun j hj e => by
      rw [List.length_drop] at hj
      rw [ent_drop] at e
      exact h (i + 1 + j) (by omega) (by omega) e
    rw [hn]
    rfl
theorem kept_iff {l : List (Int × Int)} {i : Nat} : kept l i = true ↔ isL l i = true ∧ (ent l i).2 ≠ 0 := by
  unfold kept
  simp
theorem last_at {l : List (Int × Int)} {i : Nat} (hi : i < l.length) (h : isL l i = true) : lastC l (ent l i).1 = (ent l i).2 := by
  rcases lc_cases l (ent l i).1 l.length with ⟨j, hj, e, hv, hno⟩ | ⟨hno, _⟩
  · have : j = i := by
      by_cases c : j < i
      · exact absurd rfl (hno i c hi)
      · by_cases c2 : i < j
        · exact absurd e (isL_iff.1 h j c2 hj)
        · omega
    subst this
    exact hv
  · exact absurd rfl (hno i hi)
theorem keys_mem {l : List (Int × Int)} {p : Int} : ∀ k, k ≤ l.length → (p ∈ keys l k ↔ ∃ i, i < k ∧ kept l i = true ∧ (ent l i).1 = p)
  | 0, _ => by simp [keys]
  | k + 1, hk => by
    have ih := keys_mem (l := l) (p := p) k (by omega)
    unfold keys
    by_cases c : kept l k = true
    · rw [if_pos c, List.mem_append, List.mem_singleton, ih]
      constructor
      · rintro (⟨i, h1, h2, h3⟩ | rfl)
        · exact ⟨i, by omega, h2, h3⟩
        · exact ⟨k, by omega, c, rfl⟩
      · rintro ⟨i, h1, h2, h3⟩
        by_cases e : i = k
        · subst e; exact .inr h3.symm
        · exact .inl ⟨i, by omega, h2, h3⟩
    · rw [if_neg c, ih]
      constructor
      · rintro ⟨i, h1, h2, h3⟩; exact ⟨i, by omega, h2, h3⟩
      · rintro ⟨i, h1, h2, h3⟩
        by_cases e : i = k
        · subst e; exact absurd h2 c
        · exact ⟨i, by omega, h2, h3⟩
theorem keys_nodup {l : List (Int × Int)} : ∀ k, k ≤ l.length → (keys l k).Nodup
  | 0, _ => by simp [keys]
  | k + 1, hk => by
    have ih := keys_nodup (l := l) k (by omega)
    unfold keys
    by_cases c : kept l k = true
    · rw [if_pos c, List.nodup_append]
      refine ⟨ih, by simp, fun a ha b hb => ?_⟩
      rw [List.mem_singleton] at hb
      subst hb
      obtain ⟨i, h1, h2, h3⟩ := (keys_mem k (by omega)).1 ha
      intro e
      exact isL_iff.1 (kept_iff.1 h2).1 k h1 (by omega) (by rw [h3, e])
    · rw [if_neg c]; exact ih
theorem len_le : ∀ (a b : List Int), a.Nodup → (∀ x ∈ a, x ∈ b) → a.length ≤ b.length
  | [], b, _, _ => by simp
  | x :: a, b, hn, hs => by
    rw [List.nodup_cons] at hn
    have hx : x ∈ b := hs x (by simp)
    have h := len_le a (b.erase x) hn.2 (fun y hy => (List.mem_erase_of_ne (fun e => hn.1 (by rw [← e]; exact hy))).2 (hs y (by simp [hy])))
    rw [List.length_erase_of_mem hx] at h
    have := List.length_pos_of_mem hx
    simp
    omega
/-- The processes of the pairs. -/
def pk (P : List (Int × Int)) : List Int := P.map (·.1)
theorem pk_mem {P : List (Int × Int)} {p : Int} : p ∈ pk P ↔ ∃ j, j < P.length ∧ (ent P j).1 = p := by
  unfold pk
  rw [List.mem_map]
  constructor
  · rintro ⟨x, hx, e⟩
    obtain ⟨j, hj, rfl⟩ := List.getElem_of_mem hx
    exact ⟨j, hj, by rw [ent_get P j hj]; exact e⟩
  · rintro ⟨j, hj, e⟩
    exact ⟨ent P j, ent_mem P j hj, e⟩
theorem pk_nodup {P : List (Int × Int)} (h : Up P) : (pk P).Nodup := by
  unfold pk
  rw [List.Nodup, List.pairwise_iff_getElem]
  intro i j hi hj hij e
  simp at hi hj
  simp at e
  have := h i j hij (by omega)
  rw [ent_get P i (by omega), ent_get P j (by omega)] at this
  omega
theorem same_keys {l P : List (Int × Int)} (h : PairsOf l P) (p : Int) : p ∈ keys l l.length ↔ p ∈ pk P := by
  rw [keys_mem _ (Nat.le_refl _), pk_mem]
  constructor
  · rintro ⟨i, h1, h2, rfl⟩
    obtain ⟨k1, k2⟩ := kept_iff.1 h2
    have e := last_at h1 k1
    rw [← h.look] at e
    by_cases c : ∃ j, j < P.length ∧ (ent P j).1 = (ent l i).1
    · exact c
    · rw [look_none (fun j hj e => c ⟨j, hj, e⟩)] at e
      exact absurd e.symm k2
  · rintro ⟨j, hj, rfl⟩
    have e := look_at h.up j hj rfl
    rw [h.look] at e
    rcases lc_cases l (ent P j).1 l.length with ⟨i, hi, e1, hv, hno⟩ | ⟨_, hv⟩
    · refine ⟨i, hi, kept_iff.2 ⟨isL_iff.2 fun t h1 h2 => by rw [e1]; exact hno t h1 h2, ?_⟩, e1⟩
      rw [← hv]
      show lastC l (ent P j).1 ≠ 0
      rw [e]
      exact h.nz j hj
    · exact absurd (e.symm.trans hv) (h.nz j hj)
theorem keys_count {l P : List (Int × Int)} (h : PairsOf l P) : (keys l l.length).length = P.length := by
  have e : (pk P).length = P.length := by unfold pk; simp
  rw [← e]
  exact Nat.le_antisymm (len_le _ _ (keys_nodup _ (Nat.le_refl _)) fun x hx => (same_keys h x).1 hx) (len_le _ _ (pk_nodup h.up) fun x hx => (same_keys h x).2 hx)
theorem mx_spec {l : List (Int × Int)} : ∀ k, (∀ p ∈ keys l k, p ≤ mx l k) ∧ (mx l k = -1 ∨ mx l k ∈ keys l k) ∧ -1 ≤ mx l k
  | 0 => by simp [keys, mx]
  | k + 1 => by
    obtain ⟨h1, h2, h3⟩ := mx_spec (l := l) k
    unfold keys mx
    by_cases c : kept l k = true
    · rw [if_pos c, if_pos c]
      by_cases d : mx l k < (ent l k).1
      · rw [if_pos d]
        refine ⟨fun p hp => ?_, .inr (by simp), by omega⟩
        rcases List.mem_append.1 hp with hp | hp
        · have := h1 p hp; omega
        · rw [List.mem_singleton] at hp; omega
      · rw [if_neg d]
        refine ⟨fun p hp => ?_, h2.imp id (fun h => by simp [h]), h3⟩
        rcases List.mem_append.1 hp with hp | hp
        · exact h1 p hp
        · rw [List.mem_singleton] at hp; omega
    · rw [if_neg c, if_neg c]; exact ⟨h1, h2, h3⟩
theorem mx_high {l P : List (Int × Int)} (h : PairsOf l P) (hd : dom l = true) : mx l l.length = high P := by
  obtain ⟨h1, h2, h3⟩ := mx_spec (l := l) l.length
  unfold high
  split
  · rename_i h0
    rcases h2 with h2 | h2
    · exact h2
    · obtain ⟨j, hj, _⟩ := pk_mem.1 ((same_keys h _).1 h2)
      omega
  · rename_i h0
    have ha : (ent P (P.length - 1)).1 ≤ mx l l.length := h1 _ ((same_keys h _).2 (pk_mem.2 ⟨P.length - 1, by omega, rfl⟩))
    obtain ⟨x, hx, e⟩ := h.mem (P.length - 1) (by omega)
    have h0' := (dom_at hd hx).1
    rcases h2 with h2 | h2
    · rw [e] at ha; omega
    · obtain ⟨j, hj, e2⟩ := pk_mem.1 ((same_keys h _).1 h2)
      have := h.up.lt (i := j) (j := P.length - 1) (by omega) (by omega)
      omega
#print axioms mx_high
end Go.Proofs.Qxb6608749a.Law
