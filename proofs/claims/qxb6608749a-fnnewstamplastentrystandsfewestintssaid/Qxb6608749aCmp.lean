/-
  cmp.Compare[int]; the comparison that NewStamp hands to the sort.
-/
import Derived.Test.Qxb6608749aKit
import Derived.Test.Qxb6608749aPlain
namespace Go.Proofs.Qxb6608749a.Stable
open Go.Shelf Go.RowKit Go.Lib Go.Sort

def cmpI (x y : Int) : Int := if x < y then -1 else if y < x then 1 else 0
def cfE (x y : Int × Int) : Int := cmpI x.1 y.1
theorem cmpI_lt {x y : Int} : cmpI x y < 0 ↔ x < y := by
  unfold cmpI; repeat' split
  all_goals omega
theorem lt_cf (x y : Int × Int) : ltOf cfE x y = decide (x.1 < y.1) := by
  unfold ltOf cfE
  rw [Bool.eq_iff_iff, decide_eq_true_eq, decide_eq_true_eq]
  exact cmpI_lt
theorem not_cf {x y : Int × Int} (h : ¬ x.1 < y.1) : (!decide (cfE x y < 0)) = true := by
  have e : decide (cfE x y < 0) = false := decide_eq_false fun c => h (cmpI_lt.1 c)
  rw [e]; rfl
theorem swo : SWO (ltOf cfE) := by
  refine ⟨fun x => ?_, fun x y z => ?_, fun x y z => ?_⟩
  · rw [lt_cf]; simp
  · rw [lt_cf, lt_cf, lt_cf]; simp only [decide_eq_true_eq]; omega
  · rw [lt_cf, lt_cf, lt_cf]; simp only [decide_eq_false_iff_not]; omega

theorem compare_any (x y : Int) (w : World) :
    Calls Try.prog 26 #[.int .i64 x, .int .i64 y] w fun e w' => e = .returned (.int .i64 (cmpI x y)) ∧ w' = w := by
  unfold cmpI
  by_cases h1 : x < y
  · rw [if_pos h1]
    go_enter Try.func26, Try.ntmps26
    go_wp2
    go_ret
    exact ⟨rfl, rfl⟩
  · rw [if_neg h1]
    by_cases h2 : y < x
    · rw [if_pos h2]
      go_enter Try.func26, Try.ntmps26
      go_wp2
      go_ret
      exact ⟨rfl, rfl⟩
    · rw [if_neg h2]
      go_enter Try.func26, Try.ntmps26
      go_wp2
      go_ret
      exact ⟨rfl, rfl⟩

theorem cmpE_any (x y : Int × Int) (w : World) :
    Calls Try.prog 25 #[.agg (encE x).toArray, .agg (encE y).toArray] w fun e w' => e = .returned (.int .i64 (cfE x y)) ∧ ∃ q os', w' = grow (w.drewN q) os' := by
  unfold encE cfE
  have hC := fun W => compare_any x.1 y.1 W
  go_enter Try.func25, Try.ntmps25
  go_wp2_with (go_at_call 26; refine (hC _).mono ?_; rintro e w' ⟨rfl, rfl⟩)
  go_ret
  refine ⟨rfl, 0, #[.cells #[.int .i64 x.1, .int .i64 x.2] 29] ++ #[.cells #[.int .i64 y.1, .int .i64 y.2] 29], ?_⟩
  rw [alloc_eq_grow, alloc_eq_grow, grow_grow]
  rfl

theorem cmpLays (blk off size : Nat) (w : World) : CmpLays Try.prog 25 #[] encE 2 cfE blk off size w := fun _ _ _ _ x y => cmpE_any x y _

/-- The sort's comparison, in the walk's spelling, in every world of a class. -/
theorem cmpE_cls (x y : Int × Int) (W : World) (n : Nat) (os : Array Obj) :
    Calls Try.prog 25 #[.agg #[.int .i64 x.1, .int .i64 x.2], .agg #[.int .i64 y.1, .int .i64 y.2]] (grow (W.drewN n) os) fun e w' => e = .returned (.int .i64 (cfE x y)) ∧ ∃ q os', w' = grow ((grow (W.drewN n) os).drewN q) os' := cmpE_any x y _

/-- A row's cells in every world of a class. -/
theorem sw_cls {w0 W : World} {blk off : Nat} {d0 d : Array (Int × Int)} (S : SW w0 blk off d W) (R : Row w0 blk off d0) (hs : d.size = d0.size) (j : Nat) (hj : j < d.size) :
    (∀ n os, (grow (W.drewN n) os).cell? ⟨blk, off + j * 2, none⟩ = some (.int .i64 d[j]!.1)) ∧ (∀ n os, (grow (W.drewN n) os).cell? ⟨blk, off + j * 2 + 1, none⟩ = some (.int .i64 d[j]!.2)) :=
  ⟨fun n os => (sw_cells (sw_grown S n os) R hs j hj).1.1, fun n os => (sw_cells (sw_grown S n os) R hs j hj).1.2⟩
#print axioms cmpLays
end Go.Proofs.Qxb6608749a.Stable
