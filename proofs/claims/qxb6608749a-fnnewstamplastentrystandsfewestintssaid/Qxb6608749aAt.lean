/-
  (Stamp).pairs, sparseAt, (Stamp).At, (Stamped).K: contracts over a stamp as it lies in memory.
-/
import Derived.Test.Qxb6608749aFind
namespace Go.Proofs.Qxb6608749a.Law
open Go.RowKit

/-- The greatest process among the pairs; -1 if there is none. -/
def high (P : List (Int × Int)) : Int := if P.length = 0 then -1 else (ent P (P.length - 1)).1

/-- The slice sv is, in W, the field of the stamp whose components that are not zero are P. -/
def StampIs (W : World) (sv : Value) (P : List (Int × Int)) : Prop :=
  (P.length = 0 ∧ sv = .slice none 0 0) ∨
  (∃ g, 0 < P.length ∧ 2 * (P.length : Int) < high P + 1 ∧ sv = .slice (some ⟨g, 0, none⟩) 0 (2 * P.length) ∧ g < W.heap.size ∧ PairRow W g P) ∨
  (∃ g N : Nat, 0 < P.length ∧ high P + 1 ≤ 2 * (P.length : Int) ∧ (N : Int) = high P + 1 ∧ 0 < N ∧ sv = .slice (some ⟨g, 0, none⟩) N N ∧ g < W.heap.size ∧ ∀ j : Nat, j < N → W.cell? ⟨g, j, none⟩ = some (.int .i64 (look P (j : Int))))

theorem StampIs.later {W W' : World} {sv : Value} {P : List (Int × Int)} (h : StampIs W sv P) (hb : Below W.heap.size W W') : StampIs W' sv P := by
  rcases h with h | ⟨g, h0, h1, h2, h3, h4⟩ | ⟨g, N, h0, h1, h2, h3, h4, h5, h6⟩
  · exact .inl h
  · exact .inr (.inl ⟨g, h0, h1, h2, Nat.lt_of_lt_of_le h3 hb.size, h4.later hb h3⟩)
  · exact .inr (.inr ⟨g, N, h0, h1, h2, h3, h4, Nat.lt_of_lt_of_le h5 hb.size, fun j hj => by rw [hb.cell (p := ⟨g, j, none⟩) h5]; exact h6 j hj⟩)

theorem above_high {P : List (Int × Int)} (hU : Up P) {p : Int} (h : high P < p) : look P p = 0 := look_none fun j hj e => by
  unfold high at h
  rw [if_neg (by omega)] at h
  have := hU.lt (i := j) (j := P.length - 1) (by omega) (by omega)
  omega

theorem belowQ (w : World) (o : Obj) (q : Nat) : Below w.heap.size w ((w.alloc o).drewN q) := below_drewN ((Below.refl _ w).alloc (Nat.le_refl _) _) q

/-- pairs(): a sparse stamp's. -/
theorem pairs_sparse (g c : Nat) (w : World) :
    Calls Try.prog 23 #[.agg #[.slice (some ⟨g, 0, none⟩) 0 c]] w fun e w' => e = .returned (.slice (some ⟨g, 0, none⟩) c c) ∧ w' = w.alloc (.cells #[.slice (some ⟨g, 0, none⟩) 0 c] 27) := by
  go_enter Try.func23, Try.ntmps23
  go_wp2
  go_ret
  exact ⟨rfl, rfl⟩
/-- .. a dense one's. -/
theorem pairs_dense (g N c : Nat) (w : World) (hN : (0 : Int) < (N : Int)) :
    Calls Try.prog 23 #[.agg #[.slice (some ⟨g, 0, none⟩) N c]] w fun e w' => e = .returned (.slice none 0 0) ∧ w' = w.alloc (.cells #[.slice (some ⟨g, 0, none⟩) N c] 27) := by
  go_enter Try.func23, Try.ntmps23
  go_wp2
  go_ret
  exact ⟨rfl, rfl⟩
/-- .. the zero stamp's. -/
theorem pairs_zero (w : World) :
    Calls Try.prog 23 #[.agg #[.slice none 0 0]] w fun e w' => e = .returned (.slice none 0 0) ∧ w' = w.alloc (.cells #[.slice none 0 0] 27) := by
  go_enter Try.func23, Try.ntmps23
  go_wp2
  go_ret
  exact ⟨rfl, rfl⟩

theorem sparseAt_zero (p : Int) (w : World) :
    Calls Try.prog 22 #[.agg #[.slice none 0 0], .int .i64 p] w fun e w' => e = .returned (.int .i64 0) ∧ Below w.heap.size w w' := by
  go_enter Try.func22, Try.ntmps22
  go_wp2_with fail
  refine (pairs_zero _).mono ?_
  rintro e w1 ⟨rfl, rfl⟩
  go_wp2_with fail
  refine (find_nil _ _).mono ?_
  rintro e w2 ⟨rfl, q, rfl⟩
  go_wp2
  go_ret
  exact ⟨rfl, below_drewN (((Below.refl _ w).alloc (Nat.le_refl _) _).alloc (by simp) _) q⟩
theorem sparseAt_dense (g N c : Nat) (p : Int) (w : World) (hN : (0 : Int) < (N : Int)) :
    Calls Try.prog 22 #[.agg #[.slice (some ⟨g, 0, none⟩) N c], .int .i64 p] w fun e w' => e = .returned (.int .i64 0) ∧ Below w.heap.size w w' := by
  go_enter Try.func22, Try.ntmps22
  go_wp2_with fail
  refine (pairs_dense _ _ _ _ hN).mono ?_
  rintro e w1 ⟨rfl, rfl⟩
  go_wp2_with fail
  refine (find_nil _ _).mono ?_
  rintro e w2 ⟨rfl, q, rfl⟩
  go_wp2
  go_ret
  exact ⟨rfl, below_drewN (((Below.refl _ w).alloc (Nat.le_refl _) _).alloc (by simp) _) q⟩
set_option maxHeartbeats 400000 in
theorem sparseAt_sparse (g n : Nat) (P : List (Int × Int)) (p : Int) (w : World) (hn : n = 2 * P.length) (hl : P.length ≤ 1048576) (hU : Up P) (hg : g < w.heap.size) (hR : PairRow w g P) :
    Calls Try.prog 22 #[.agg #[.slice (some ⟨g, 0, none⟩) 0 n], .int .i64 p] w fun e w' => e = .returned (.int .i64 (look P p)) ∧ Below w.heap.size w w' := by
  have HR : Aside (PairRow w g P) := hR
  have HU : Aside (Up P) := hU
  have HN : Hid (n = 2 * P.length) := hn
  have HL : Hid (P.length ≤ 1048576) := hl
  have HG : Hid (g < w.heap.size) := hg
  clear hR hU hn hl hg
  go_enter Try.func22, Try.ntmps22
  go_wp2_with fail
  refine (pairs_sparse _ _ _).mono ?_
  rintro e w1 ⟨rfl, rfl⟩
  go_wp2_with fail
  have hb := ((Below.refl _ w).alloc (Nat.le_refl _) (.cells #[.slice (some ⟨g, 0, none⟩) 0 n] 27)).alloc (by simp) (.cells #[.slice (some ⟨g, 0, none⟩) 0 n] 27)
  refine (find_any g n n P p _ HN.out HL.out HU.out (HR.out.later hb HG.out)).mono ?_
  rintro e w2 ⟨⟨j, ok, rfl, hjl, h1, h2⟩, q, rfl⟩
  cases ok with
  | true =>
    obtain ⟨hj, hp⟩ := h1 rfl
    have hlk : Hid (look P p = (ent P j).2) := look_at HU.out j hj hp
    have hcell := ((HR.out.later hb HG.out) j hj).2
    have e2 : (2 * (j : Int) + 1).toNat = 2 * j + 1 := by omega
    have bj : 2 * (j : Int) + 1 < (n : Int) := by have := HN.out; omega
    have b0 : (j : Int) ≤ 1048576 := by have := HL.out; omega
    have hbq : Aside _ := below_drewN hb q
    clear h1 h2 hp hj hb hjl
    go_wp2
    go_ret
    exact ⟨ret_int hlk.out.symm, hbq.out⟩
  | false =>
    have hlk : Hid (look P p = 0) := look_none (h2 rfl)
    have hbq : Aside _ := below_drewN hb q
    clear h1 h2 hb hjl
    go_wp2
    go_ret
    exact ⟨ret_int hlk.out.symm, hbq.out⟩

/-- (Stamp).At. -/
theorem at_any (sv : Value) (P : List (Int × Int)) (p : Int) (w : World) (hS : StampIs w sv P) (hU : Up P) (hl : P.length ≤ 1048576) (hp : 0 ≤ p) :
    Calls Try.prog 10 #[.agg #[sv], .int .i64 p] w fun e w' => e = .returned (.int .i64 (look P p)) ∧ Below w.heap.size w w' := by
  rcases hS with ⟨h0, rfl⟩ | ⟨g, h0, h1, rfl, hg, hR⟩ | ⟨g, N, h0, h1, h2, h3, rfl, hg, hc⟩
  · rw [look_none fun j hj => by omega]
    go_enter Try.func10, Try.ntmps10
    go_wp2_with (go_at_call 22; refine (sparseAt_zero _ _).mono ?_; rintro e w' ⟨rfl, hb⟩)
    go_ret
    exact ⟨rfl, ((Below.refl _ w).alloc (Nat.le_refl _) _).trans (hb.mono (by simp))⟩
  · obtain ⟨n, hn⟩ : ∃ n, n = 2 * P.length := ⟨_, rfl⟩
    rw [← hn]
    have hb := (Below.refl _ w).alloc (Nat.le_refl _) (.cells #[.slice (some ⟨g, 0, none⟩) 0 n] 27)
    have hC := sparseAt_sparse g n P p _ hn hl hU (Nat.lt_of_lt_of_le hg hb.size) (hR.later hb hg)
    clear hn hR hb h1 h0
    go_enter Try.func10, Try.ntmps10
    go_wp2_with (go_at_call 22; refine hC.mono ?_; rintro e w' ⟨rfl, hb⟩)
    go_ret
    exact ⟨rfl, ((Below.refl _ w).alloc (Nat.le_refl _) _).trans (hb.mono (by simp))⟩
  · by_cases hlt : p < (N : Int)
    · obtain ⟨j, rfl⟩ := Int.eq_ofNat_of_zero_le hp
      have hcell := hc j (by omega)
      have HG : Hid (g < w.heap.size) := hg
      clear hc h0 h1 h2
      go_enter Try.func10, Try.ntmps10
      go_wp2
      go_ret
      exact ⟨rfl, (Below.refl _ w).alloc (Nat.le_refl _) _⟩
    · rw [above_high hU (by omega)]
      clear h1 h2 hc
      have hN : (0 : Int) < (N : Int) := by omega
      go_enter Try.func10, Try.ntmps10
      go_wp2_with (go_at_call 22; refine (sparseAt_dense _ _ _ _ _ hN).mono ?_; rintro e w' ⟨rfl, hb⟩)
      go_ret
      exact ⟨rfl, ((Below.refl _ w).alloc (Nat.le_refl _) _).trans (hb.mono (by simp))⟩
#print axioms at_any
end Go.Proofs.Qxb6608749a.Law
