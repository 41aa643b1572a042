/-
  What symMerge is to do, as a premise for the ranges that it calls itself on.
-/
import Derived.Test.Qxb6608749aSwapRange
import Derived.Test.Qxb6608749aCmp
import Derived.Test.Qxb6608749aMerge
namespace Go.Proofs.Qxb6608749a.Stable
open Go.Shelf Go.RowKit Go.Lib Go.Sort

/-- symMerge merges [a, m) and [m, b), at every range shorter than L. -/
def SymTo (blk off cap size L : Nat) (w0 : World) : Prop :=
  ∀ (a m b : Nat) (d : Array (Int × Int)) (w : World), a < m → m < b → b ≤ size → b - a < L → d.size = size → SW w0 blk off d w → Srt d a m → Srt d m b →
    Calls Try.prog 33 #[.slice (some ⟨blk, off, none⟩) size cap, .int .i64 a, .int .i64 m, .int .i64 b, .func (.func 25) #[] #[]] w fun e w' => e = .returned (.tuple #[]) ∧ ∃ d', Keep a b d d' ∧ Srt d' a b ∧ SW w0 blk off d' w'

end Go.Proofs.Qxb6608749a.Stable
