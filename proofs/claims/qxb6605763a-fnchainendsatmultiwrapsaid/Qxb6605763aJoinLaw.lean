/-
  ZZchainLenJoin, ZZchainLenURLJoin; the law FnChainEndsAtMultiWrap: her walk.
-/
import Derived.Test.Qxb6605763aJoin
namespace Go.Proofs.Qxb6605763a.Chain
open Go.RowKit

/-- The two errors that Join is handed. -/
def two (x y : Nat × Nat) (j : Nat) : Nat × Nat := if j = 0 then x else y
theorem two_cells {w : World} {B : Nat} {x y : Nat × Nat} (h0 : w.cell? ⟨B, 0, none⟩ = some (.iface x.1 (.pointer (some ⟨x.2, 0, none⟩)))) (h1 : w.cell? ⟨B, 1, none⟩ = some (.iface y.1 (.pointer (some ⟨y.2, 0, none⟩)))) :
    ∀ j, j < 2 → w.cell? ⟨B, j, none⟩ = some (.iface (two x y j).1 (.pointer (some ⟨(two x y j).2, 0, none⟩))) := by
  intro j hj
  have : j = 0 ∨ j = 1 := by omega
  rcases this with rfl | rfl
  · exact h0
  · exact h1

theorem below4 (w : World) (o1 o2 o3 : Obj) : Below w.heap.size w (((w.alloc o1).alloc o2).alloc o3) := (((Below.refl _ w).alloc (Nat.le_refl _) _).alloc (by simp) _).alloc (by simp; omega) _

set_option maxHeartbeats 400000 in
theorem zzjoin (a b : ByteArray) (w : World) : Calls Try.prog 20 #[.string a, .string b] w fun e w' => e = .returned (.int .i64 1) ∧ Below w.heap.size w w' := by
  go_enter Try.func20, Try.ntmps20
  go_wp2_with fail
  refine (new_plain _ _).mono ?_
  rintro e w0 ⟨rfl, rfl⟩
  go_wp2_with fail
  refine (new_plain _ _).mono ?_
  rintro e w0 ⟨rfl, rfl⟩
  go_wp2_with fail
  refine (join_any _ _ (two (50, w.heap.size) (50, w.heap.size + 1)) _ (by simp) (two_cells (by go_simp) (by go_simp))).mono ?_
  rintro e w1 ⟨⟨bj, rfl, hlo, hhi⟩, hb1⟩
  go_wp2_with fail
  refine (chain_any _ (.inr ⟨(53, bj), rfl⟩) _).mono ?_
  rintro e w2 ⟨rfl, rfl⟩
  go_wp2_with fail
  refine (collect_any w1.heap.size w1.heap.size (enc (53, bj)) [(53, bj)] _ (by simp) (by simp) (by simp) (by (unfold enc; go_simp)) ⟨rfl, hhi, .inr (.inl ⟨rfl, rfl⟩)⟩).mono ?_
  rintro e w3 ⟨⟨p, cap, rfl⟩, hb⟩
  go_wp2
  go_ret
  have hb3 : Below w.heap.size w w1 := (below4 w _ _ _).trans (hb1.mono (by simp; omega))
  exact ⟨rfl, (hb3.alloc hb3.size _).trans (hb.mono (by simp; have := hb3.size; omega))⟩

set_option maxHeartbeats 400000 in
theorem zzurljoin (op u a b : ByteArray) (w : World) : Calls Try.prog 21 #[.string op, .string u, .string a, .string b] w fun e w' => e = .returned (.int .i64 2) ∧ Below w.heap.size w w' := by
  go_enter Try.func21, Try.ntmps21
  go_wp2_with fail
  refine (new_plain _ _).mono ?_
  rintro e w0 ⟨rfl, rfl⟩
  go_wp2_with fail
  refine (new_plain _ _).mono ?_
  rintro e w0 ⟨rfl, rfl⟩
  go_wp2_with fail
  refine (join_any _ _ (two (50, w.heap.size) (50, w.heap.size + 1)) _ (by simp) (two_cells (by go_simp) (by go_simp))).mono ?_
  rintro e w1 ⟨⟨bj, rfl, hlo, hhi⟩, hb1⟩
  go_wp2_with fail
  refine (chain_any _ (.inr ⟨(41, w1.heap.size), rfl⟩) _).mono ?_
  rintro e w2 ⟨rfl, rfl⟩
  go_wp2_with fail
  refine (collect_any (w1.heap.size + 1) (w1.heap.size + 1) (enc (41, w1.heap.size)) [(41, w1.heap.size), (53, bj)] _ (by simp) (by simp) (by simp) (by (unfold enc; go_simp)) ⟨rfl, by simp, .inr (.inr ⟨rfl, enc (53, bj), by (unfold enc; go_simp), ⟨rfl, by simp; omega, .inr (.inl ⟨rfl, rfl⟩)⟩⟩)⟩).mono ?_
  rintro e w3 ⟨⟨p, cap, rfl⟩, hb⟩
  go_wp2
  go_ret
  have hb3 : Below w.heap.size w w1 := (below4 w _ _ _).trans (hb1.mono (by simp; omega))
  have hs3 := hb3.size
  exact ⟨rfl, ((hb3.alloc hs3 _).alloc (by simp; omega) _).trans (hb.mono (by simp; omega))⟩

theorem bytes4_yes (a b c d : ByteArray) (w : World) (h : (a.size : Int) + (b.size : Int) + (c.size : Int) + (d.size : Int) ≤ 1048576) :
    Calls Try.prog 19 #[.string a, .string b, .string c, .string d] w fun e w' => e = .returned (.bool true) ∧ w' = w := by
  have h1 : (a.size : Int) ≤ 1048576 := by omega
  have h2 : (b.size : Int) ≤ 1048576 := by omega
  have h3 : (c.size : Int) ≤ 1048576 := by omega
  have h4 : (a.size : Int) + (b.size : Int) ≤ 1048576 := by omega
  have h5 : (a.size : Int) + (b.size : Int) + (c.size : Int) ≤ 1048576 := by omega
  have h6 : (d.size : Int) ≤ 1048576 := by omega
  go_enter Try.func19, Try.ntmps19
  go_wp2
  go_ret
  exact ⟨rfl, rfl⟩

set_option maxHeartbeats 1000000 in
theorem bytes4_no (a b c d : ByteArray) (w : World) (wa : (a.size : Int) ≤ 9223372036854775807) (wb : (b.size : Int) ≤ 9223372036854775807) (wc : (c.size : Int) ≤ 9223372036854775807) (wd : (d.size : Int) ≤ 9223372036854775807) (h : 1048576 < (a.size : Int) + (b.size : Int) + (c.size : Int) + (d.size : Int)) :
    Calls Try.prog 19 #[.string a, .string b, .string c, .string d] w fun e w' => e = .returned (.bool false) ∧ w' = w := by
  by_cases h1 : (a.size : Int) ≤ 1048576
  · by_cases h2 : (b.size : Int) ≤ 1048576
    · by_cases h3 : (a.size : Int) + (b.size : Int) ≤ 1048576
      · by_cases h4 : (c.size : Int) ≤ 1048576
        · by_cases h5 : (a.size : Int) + (b.size : Int) + (c.size : Int) ≤ 1048576
          · by_cases h6 : (d.size : Int) ≤ 1048576
            all_goals
              go_enter Try.func19, Try.ntmps19
              go_wp2
              go_ret
              exact ⟨rfl, rfl⟩
          · go_enter Try.func19, Try.ntmps19
            go_wp2
            go_ret
            exact ⟨rfl, rfl⟩
        · go_enter Try.func19, Try.ntmps19
          go_wp2
          go_ret
          exact ⟨rfl, rfl⟩
      · go_enter Try.func19, Try.ntmps19
        go_wp2
        go_ret
        exact ⟨rfl, rfl⟩
    · go_enter Try.func19, Try.ntmps19
      go_wp2
      go_ret
      exact ⟨rfl, rfl⟩
  · go_enter Try.func19, Try.ntmps19
    go_wp2
    go_ret
    exact ⟨rfl, rfl⟩

theorem walk6_no (a b c d : ByteArray) (w : World) (wa : (a.size : Int) ≤ 9223372036854775807) (wb : (b.size : Int) ≤ 9223372036854775807) (wc : (c.size : Int) ≤ 9223372036854775807) (wd : (d.size : Int) ≤ 9223372036854775807) (h : 1048576 < (a.size : Int) + (b.size : Int) + (c.size : Int) + (d.size : Int)) :
    Calls Try.prog 6 #[.string a, .string b, .string c, .string d] w fun e w' => e = .returned (.bool true) ∧ Below w.heap.size w w' := by
  have hC := bytes4_no a b c d w wa wb wc wd h
  clear h
  go_enter Try.func6, Try.ntmps6
  go_wp2_with (go_at_call 19; refine hC.mono ?_; rintro e w' ⟨rfl, rfl⟩)
  go_ret
  exact ⟨rfl, Below.refl _ _⟩

set_option maxHeartbeats 1000000 in
theorem walk6_yes (a b c d : ByteArray) (w : World) (h : (a.size : Int) + (b.size : Int) + (c.size : Int) + (d.size : Int) ≤ 1048576) :
    Calls Try.prog 6 #[.string a, .string b, .string c, .string d] w fun e w' => e = .returned (.bool true) ∧ Below w.heap.size w w' := by
  have h1 : (a.size : Int) ≤ 1048576 := by omega
  have h2 : (b.size : Int) ≤ 1048576 := by omega
  have h3 : (c.size : Int) ≤ 1048576 := by omega
  have h4 : (a.size : Int) + (b.size : Int) ≤ 1048576 := by omega
  have h5 : (a.size : Int) + (b.size : Int) + (c.size : Int) ≤ 1048576 := by omega
  have h6 : (d.size : Int) ≤ 1048576 := by omega
  have hC := bytes4_yes a b c d w h
  go_enter Try.func6, Try.ntmps6
  go_wp2_with fail
  refine hC.mono ?_
  rintro e w1 ⟨rfl, hw⟩
  subst hw
  go_wp2_with fail
  refine (zzjoin _ _ _).mono ?_
  rintro e w2 ⟨rfl, hb2⟩
  go_wp2_with fail
  refine (zzurljoin _ _ _ _ _).mono ?_
  rintro e w3 ⟨rfl, hb3⟩
  go_wp2
  go_ret
  exact ⟨rfl, hb2.trans (hb3.mono hb2.size)⟩

theorem walk6 (a0 a1 a2 a3 : ByteArray) (w0 : a0.size ≤ maxLen) (w1 : a1.size ≤ maxLen) (w2 : a2.size ≤ maxLen) (w3 : a3.size ≤ maxLen) (w : World) :
    Calls Try.prog 6 #[.string a0, .string a1, .string a2, .string a3] w fun e w' => e = .returned (.bool true) ∧ Below w.heap.size w w' := by
  unfold maxLen at w0 w1 w2 w3
  by_cases h : (a0.size : Int) + (a1.size : Int) + (a2.size : Int) + (a3.size : Int) ≤ 1048576
  · exact walk6_yes a0 a1 a2 a3 w h
  · exact walk6_no a0 a1 a2 a3 w (by omega) (by omega) (by omega) (by omega) (by omega)
#print axioms walk6
end Go.Proofs.Qxb6605763a.Chain
