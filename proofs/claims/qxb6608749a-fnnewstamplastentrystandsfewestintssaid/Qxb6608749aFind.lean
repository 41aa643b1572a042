/-
  find, (Stamp).pairs, sparseAt, (Stamp).At: contracts over a stamp as it lies in memory.
-/
import Derived.Test.Qxb6608749aEnt
namespace Go.Proofs.Qxb6608749a.Law
open Go.RowKit

/-! ### plain: pairs in the order of their processes -/
def look (P : List (Int × Int)) (p : Int) : Int := match P.find? (fun x => x.1 == p) with | some x => x.2 | none => 0
def Up (P : List (Int × Int)) : Prop := ∀ i j, i < j → j < P.length → (ent P i).1 < (ent P j).1
theorem Up.lt {P : List (Int × Int)} (h : Up P) {i j : Nat} (hij : i ≤ j) (hj : j < P.length) : (ent P i).1 ≤ (ent P j).1 := by
  by_cases e : i = j
  · subst e; exact Int.le_refl _
  · exact Int.le_of_lt (h i j (by omega) hj)
theorem look_none {P : List (Int × Int)} {p : Int} (h : ∀ j, j < P.length → (ent P j).1 ≠ p) : look P p = 0 := by
  unfold look
  have : P.find? (fun x => x.1 == p) = none := by
    rw [List.find?_eq_none]
    intro x hx
    obtain ⟨j, hj, rfl⟩ := List.getElem_of_mem hx
    rw [← ent_get P j hj]
    simpa using h j hj
  rw [this]
theorem look_at {P : List (Int × Int)} (hU : Up P) (j : Nat) (hj : j < P.length) {p : Int} (hp : (ent P j).1 = p) : look P p = (ent P j).2 := by
  unfold look
  cases hf : P.find? (fun x => x.1 == p) with
  | none =>
    rw [List.find?_eq_none] at hf
    exact absurd (hf _ (ent_mem P j hj)) (by simp [hp])
  | some x =>
    have hx := List.find?_some hf
    have hm := List.mem_of_find?_eq_some hf
    obtain ⟨i, hi, rfl⟩ := List.getElem_of_mem hm
    rw [← ent_get P i hi] at hx ⊢
    have e1 : (ent P i).1 = p := by simpa using hx
    by_cases c : i = j
    · subst c; rfl
    · rcases Nat.lt_or_gt_of_ne c with c | c
      · have := hU i j c hj; omega
      · have := hU j i c hi; omega

/-- Pairs, each in two cells, from the head of block g. -/
def PairRow (W : World) (g : Nat) (P : List (Int × Int)) : Prop :=
  ∀ j, j < P.length → W.cell? ⟨g, 2 * j, none⟩ = some (.int .i64 (ent P j).1) ∧ W.cell? ⟨g, 2 * j + 1, none⟩ = some (.int .i64 (ent P j).2)
theorem PairRow.later {W W' : World} {g : Nat} {P : List (Int × Int)} (h : PairRow W g P) (hb : Below W.heap.size W W') (hg : g < W.heap.size) : PairRow W' g P := fun j hj => by
  rw [hb.cell (p := ⟨g, 2 * j, none⟩) hg, hb.cell (p := ⟨g, 2 * j + 1, none⟩) hg]; exact h j hj

theorem find_nil (p : Int) (w : World) :
    Calls Try.prog 28 #[.slice none 0 0, .int .i64 p] w fun e w' => e = .returned (.tuple #[.int .i64 0, .bool false]) ∧ ∃ q, w' = w.drewN q := by
  go_enter Try.func28, Try.ntmps28
  go_wp2
  go_loop [6, 7] (fun lo hi => lo = .int .i64 0 ∧ hi = .int .i64 0) (fun _ _ => 0)
  case atStart => exact ⟨rfl, rfl⟩
  case round =>
    obtain ⟨rfl, rfl⟩ := hrel
    go_wp2_with fail
    go_quiet (fail)
    go_wp2
    go_ret2
    exact ⟨rfl, _, rfl⟩

set_option maxHeartbeats 1000000 in
set_option maxRecDepth 100000 in
theorem find_any (g n cap : Nat) (P : List (Int × Int)) (p : Int) (w : World) (hn : n = 2 * P.length) (hl : P.length ≤ 1048576) (hU : Up P) (hR : PairRow w g P) :
    Calls Try.prog 28 #[.slice (some ⟨g, 0, none⟩) n cap, .int .i64 p] w fun e w' => (∃ (j : Nat) (ok : Bool), e = .returned (.tuple #[.int .i64 (2 * (j : Int)), .bool ok]) ∧ j ≤ P.length ∧ (ok = true → j < P.length ∧ (ent P j).1 = p) ∧ (ok = false → ∀ i, i < P.length → (ent P i).1 ≠ p)) ∧ ∃ q, w' = w.drewN q := by
  obtain ⟨k, hk⟩ : ∃ k, k = P.length := ⟨_, rfl⟩
  have HR : Aside (PairRow w g P) := hR
  have HU : Aside (Up P) := hU
  have HK : Hid (k = P.length) := hk
  have ek : (n : Int) / 2 = (k : Int) := by omega
  have bn : (n : Int) ≤ 2097152 := by omega
  have bk : (k : Int) ≤ 1048576 := by omega
  have HN : Hid (n = 2 * k) := show n = 2 * k by omega
  clear hR hU hn hk hl
  go_enter Try.func28, Try.ntmps28
  go_wp2
  go_loop [6, 7] (fun lo hi => ∃ i j : Nat, lo = .int .i64 i ∧ hi = .int .i64 j ∧ i ≤ j ∧ j ≤ k ∧ Aside (∀ t, t < i → (ent P t).1 < p) ∧ Aside (∀ t, j ≤ t → t < k → p ≤ (ent P t).1)) (fun lo hi => (intOf hi - intOf lo).toNat)
  case atStart => exact ⟨0, k, rfl, rfl, Nat.zero_le _, Nat.le_refl _, fun t ht => by omega, fun t h1 h2 => by omega⟩
  case round =>
    obtain ⟨i, j, rfl, rfl, hij, hjk, H1, H2⟩ := hrel
    by_cases hlt : i < j
    · have hltz : (i : Int) < (j : Int) := by omega
      obtain ⟨h, hh⟩ : ∃ h, h = (i + j) / 2 := ⟨_, rfl⟩
      have eh : ((i : Int) + (j : Int)) / 2 = (h : Int) := by omega
      have hih : i ≤ h := by omega
      have hhj : h < j := by omega
      clear hh
      have bh : 2 * (h : Int) < (n : Int) := by have := HN.out; omega
      have e2 : (2 * (h : Int)).toNat = 2 * h := by omega
      obtain ⟨hc, _⟩ := HR.out h (by have := HK.out; omega)
      by_cases hlv : (ent P h).1 < p
      · go_wp2
        go_round
        case rel => exact ⟨h + 1, j, by go_num, rfl, by omega, hjk, fun t ht => by
          have := HU.out.lt (i := t) (j := h) (by omega) (by have := HK.out; omega)
          omega, H2⟩
        case measure => simp [intOf]; omega
      · go_wp2
        go_round
        case rel => exact ⟨i, h, rfl, rfl, hih, by omega, H1, fun t h1 h2 => by
          have := HU.out.lt (i := h) (j := t) h1 (by have := HK.out; omega)
          omega⟩
        case measure => simp [intOf]; omega
    · obtain rfl : i = j := by omega
      by_cases hik : i < k
      · have bi : 2 * (i : Int) < (n : Int) := by have := HN.out; omega
        have e2 : (2 * (i : Int)).toNat = 2 * i := by omega
        obtain ⟨hc, _⟩ := HR.out i (by have := HK.out; omega)
        go_wp2_with fail
        go_quiet (fail)
        go_wp2
        go_ret2
        refine ⟨⟨i, (ent P i).1 == p, rfl, by have := HK.out; omega, fun h => ⟨by have := HK.out; omega, by simpa using h⟩, fun h t ht => ?_⟩, _, rfl⟩
        have hne : (ent P i).1 ≠ p := by simpa using h
        by_cases c : t < i
        · have := H1.out t c; omega
        · have h3 := HU.out.lt (i := i) (j := t) (by omega) ht
          have h4 := H2.out i (Nat.le_refl _) hik
          omega
      · obtain rfl : i = k := by omega
        have bi : decide (2 * (i : Int) < (n : Int)) = false := decide_eq_false (by have := HN.out; omega)
        go_wp2_with fail
        go_quiet (fail)
        go_wp2
        go_ret2
        exact ⟨⟨i, false, rfl, by have := HK.out; omega, fun h => (by cases h), fun _ t ht => by have := H1.out t (by have := HK.out; omega); omega⟩, _, rfl⟩
#print axioms find_any
end Go.Proofs.Qxb6608749a.Law
