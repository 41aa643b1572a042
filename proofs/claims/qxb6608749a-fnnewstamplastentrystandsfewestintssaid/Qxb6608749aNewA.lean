/-
  trace.NewStamp: what its loops need.
-/
import Derived.Test.Qxb6608749aSortOwn
import Derived.Test.Qxb6608749aPairs
import Derived.Test.Qxb6608749aIter
namespace Go.Proofs.Qxb6608749a.Law
open Go.RowKit Go.Shelf Go.Sort Stable

theorem cell_two_new (w : World) (x y : Value) (t : TypeId) : ∀ j u, [x, y][j]? = some u → (w.alloc (.cells #[x, y] t)).cell? ((⟨w.heap.size, 0, none⟩ : Addr).add j) = some u := by
  intro j u hj
  match j, hj with
  | 0, hj => simp at hj; subst hj; simp [Addr.add]
  | 1, hj => simp at hj; subst hj; simp [Addr.add]
  | (j + 2), hj => simp at hj

theorem own_drewN {w : World} {B e size n : Nat} {v : Value} {xs : List Value} (h : w.ownsRow B e size v n xs) (q : Nat) : (w.drewN q).ownsRow B e size v n xs := h

/-- The sort, of the empty slice also. -/
theorem sort_both (n₀ : Nat) (v : Value) (l : List (Int × Int)) (W : World) (hl : l.length ≤ 1048576) (h : W.ownsRow n₀ 29 2 v l.length (flat l)) :
    (∃ a cap, v = .slice a l.length cap) ∧
    Calls Try.prog 24 #[v, .func (.func 25) #[] #[]] W fun e w' => e = .returned (.tuple #[]) ∧ ∃ d : Array (Int × Int), Keep 0 l.length l.toArray d ∧ Srt d 0 l.length ∧ d.size = l.length ∧
      (∀ a cap, v = .slice a l.length cap → EntB w'.heap.size w' a d.toList) ∧ W.grownBy w' v.ownBlock := by
  rcases h.2 with ⟨rfl, h0⟩ | ⟨g, cap, cur, rfl, _⟩
  · have e : l = [] := List.length_eq_zero_iff.1 h0
    subst e
    refine ⟨⟨none, 0, rfl⟩, (sort_nil W).mono ?_⟩
    rintro e w' ⟨rfl, rfl⟩
    exact ⟨rfl, #[], Keep.refl _ _ _, fun i j h1 h2 h3 => by simp at h3, rfl, fun a cap e => .inl rfl, World.grownBy.refl _ _⟩
  · refine ⟨⟨_, cap, rfl⟩, (sort_own n₀ g cap l W (by omega) h).mono ?_⟩
    rintro e w' ⟨rfl, d, k, s, H, G⟩
    have hs : d.size = l.length := by rw [k.size]; simp
    refine ⟨rfl, d, k, s, hs, fun a cap' e => ?_, G⟩
    injection e with e1 e2 e3
    subst e1
    have hg := (holds_of_owns h).2.1
    refine .inr ⟨g, 0, rfl, Nat.lt_of_lt_of_le hg G.size, fun j hj => ?_⟩
    have hj' : j < d.size := by simpa using hj
    have hc := holds_cells H j hj'
    rw [ent_arr d j hj']
    exact hc.1

theorem own_base_le {W : World} {B e size k : Nat} {v : Value} {xs : List Value} (h : W.ownsRow B e size v k xs) : ∀ g, v.ownBlock = some g → B ≤ g := by
  intro k ek
  rcases h.2 with ⟨rfl, _⟩ | ⟨g, cap, cur, rfl, hb', _, _⟩
  · simp [Value.ownBlock] at ek
  · obtain rfl : g = k := by simpa [Value.ownBlock] using ek
    exact hb'

theorem pair_of_owns {W : World} {B g cap : Nat} {P : List (Int × Int)} (h : W.ownsRow B 3 1 (.slice (some ⟨g, 0, none⟩) (P.length * 2) cap) (P.length * 2) (flat P)) : PairRow W g P ∧ g < W.heap.size ∧ P.length * 2 ≤ cap := by
  rcases h.2 with ⟨h0, _⟩ | ⟨g', cap', cur, e, hb, hg, hn, hm, hs, ht⟩
  · simp at h0
  · injection e with e1 e2 e3
    injection e1 with e1
    injection e1 with e1
    subst e1 e3
    have hat : ∀ t, t < P.length * 2 → W.cell? ⟨g, t, none⟩ = some ((encE (ent P (t / 2)))[t % 2]!) := by
      intro t ht'
      have hc : cur.toList[t]? = (flat P)[t]? := by rw [← ht, List.getElem?_take_of_lt (by omega)]
      rw [flat_at P t ht'] at hc
      simp only [World.cell?, hg]
      rw [← hc]
      simp
    refine ⟨fun j hj => ?_, (Array.getElem?_eq_some_iff.1 hg).1, hn⟩
    have h0 := hat (2 * j) (by omega)
    have h1 := hat (2 * j + 1) (by omega)
    rw [show 2 * j / 2 = j by omega, show 2 * j % 2 = 0 by omega] at h0
    rw [show (2 * j + 1) / 2 = j by omega, show (2 * j + 1) % 2 = 1 by omega] at h1
    exact ⟨h0, h1⟩

theorem fit_zero (g cap : Nat) (w : World) :
    Calls Try.prog 27 #[.slice (some ⟨g, 0, none⟩) 0 cap] w fun e w' => ∃ sv, e = .returned (.agg #[sv]) ∧ StampIs w' sv [] ∧ Below w.heap.size w w' := by
  go_enter Try.func27, Try.ntmps27
  go_wp2
  exact bodyPost_ret (v := .agg #[.slice none 0 0]) (by simp [results, Try.results27, go_sem]) rfl ⟨_, rfl, .inl ⟨rfl, rfl⟩, (Below.refl _ w).alloc (Nat.le_refl _) _⟩

/-- fit, of no pairs also. -/
theorem fit_both (B : Nat) (v : Value) (P : List (Int × Int)) (w : World) (hl : P.length ≤ 1048576) (hU : Up P) (hpos : ∀ j, j < P.length → 0 ≤ (ent P j).1 ∧ (ent P j).1 < 9223372036854775807) (h : w.ownsRow B 3 1 v (P.length * 2) (flat P)) :
    Calls Try.prog 27 #[v] w fun e w' => ∃ sv, e = .returned (.agg #[sv]) ∧ StampIs w' sv P ∧ Below w.heap.size w w' := by
  rcases h.2 with ⟨rfl, h0⟩ | ⟨g, cap, cur, rfl, _⟩
  · have e : P = [] := List.length_eq_zero_iff.1 (by omega)
    subst e
    exact fit_nil w
  · obtain ⟨hR, hg, hc⟩ := pair_of_owns h
    by_cases h0 : 0 < P.length
    · exact fit_some g _ cap P w (by omega) hc h0 hl hU hpos hg hR
    · have e : P = [] := List.length_eq_zero_iff.1 (by omega)
      subst e
      exact fit_zero g cap w

theorem StampIs.shape {W : World} {sv : Value} {P : List (Int × Int)} (h : StampIs W sv P) : ∃ a n c, sv = .slice a n c := by
  rcases h with ⟨_, rfl⟩ | ⟨g, _, _, rfl, _⟩ | ⟨g, N, _, _, _, _, rfl, _⟩
  · exact ⟨_, _, _, rfl⟩
  · exact ⟨_, _, _, rfl⟩
  · exact ⟨_, _, _, rfl⟩

/-- Where another block is written, a stamp is what it was. -/
theorem StampIs.other {W W' : World} {sv : Value} {P : List (Int × Int)} (R : Nat) (h : StampIs W sv P) (hR : ∀ n, W.cell? ⟨R, 0, none⟩ ≠ some (.int .i64 n)) (hs : W'.heap.size = W.heap.size)
    (hc : ∀ p : Addr, p.block ≠ R → W'.cell? p = W.cell? p) : StampIs W' sv P := by
  rcases h with ⟨h1, h2⟩ | ⟨g, h0, h1, h2, h3, h4⟩ | ⟨g, N, h0, h1, h2, h3, h4, h5, h6⟩
  · exact .inl ⟨h1, h2⟩
  · have hne : g ≠ R := fun e => hR _ (by rw [← e]; exact (h4 0 h0).1)
    exact .inr (.inl ⟨g, h0, h1, h2, by rw [hs]; exact h3, fun j hj => by rw [hc ⟨g, 2 * j, none⟩ hne, hc ⟨g, 2 * j + 1, none⟩ hne]; exact h4 j hj⟩)
  · have hne : g ≠ R := fun e => hR _ (by rw [← e]; exact h6 0 h3)
    exact .inr (.inr ⟨g, N, h0, h1, h2, h3, h4, by rw [hs]; exact h5, fun j hj => by rw [hc ⟨g, j, none⟩ hne]; exact h6 j hj⟩)
end Go.Proofs.Qxb6608749a.Law
