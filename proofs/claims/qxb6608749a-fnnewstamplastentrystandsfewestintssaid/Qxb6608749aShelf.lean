/-
  The library contract slices.insertionSortCmpFunc at [2]int, at this dump, in plain words (written by the kit's lay-shelf.mjs and lay-plain.mjs for this program).
-/
import Derived.Shelf.SlSortCmp.InsertionK
import Derived.Test.Qxb6608749aProg
namespace Go.Proofs.Qxb6608749a
open Go.Shelf
def Lay.laysSlF020_f32_ren : Go.Shelf.Ren := ⟨fun | 20 => 32 | n => n, fun | 24 => 29 | 22 => 22 | 3 => 3 | 25 => 50 | 4 => 4 | 0 => 0 | n => n, fun | n => n⟩
theorem Lay.laysSlF020_f32 : Go.Proofs.SlLaysF0.n20 Try.prog Lay.laysSlF020_f32_ren := {
  mixed := by kernel_rfl
  f20 := ⟨Try.f32.name, by decide, Try.func32.trans (congrArg some (by kernel_rfl))⟩
  t0 := Try.underlying0
  a0 := Try.isAgg0
  z0 := Try.sizeOf0
  v0 := Try.zeroValue0
  t3 := Try.underlying3
  a3 := Try.isAgg3
  z3 := Try.sizeOf3
  v3 := Try.zeroValue3
  t4 := Try.underlying4
  a4 := Try.isAgg4
  z4 := Try.sizeOf4
  v4 := Try.zeroValue4
  t22 := Try.underlying22
  a22 := Try.isAgg22
  z22 := Try.sizeOf22
  v22 := Try.zeroValue22
  t25 := Try.underlying50
  a25 := Try.isAgg50
  z25 := Try.sizeOf50
  v25 := Try.zeroValue50 }
open Go.RowKit Go.Lib Go.Sort in
theorem Lay.insertionSortCmpFunc {α : Type} [Inhabited α] (k : Nat) (aE : ∀ w, (isAgg 29).run Try.prog w = .ok true w) (zE : ∀ w, (Go.sizeOf 29).run Try.prog w = .ok k w) (enc : α → List Value) (hk : ∀ x, (enc x).length = k) (h1 : ∀ x, ∀ v ∈ enc x, v.oneCell' = true) (cf : α → α → Int) (g : Nat) (cb : Array Value) (blk off cap a b : Nat) (d : Array α) (w : World) (eg : ∀ args w, (callFunc g args).run Try.prog w = .ok (.enter g args) w) (hcmp : CmpLays Try.prog g cb enc k cf blk off d.size w) (hH : HoldsK enc k w blk off d) (hblk : blk < w.heap.size) (hab : a ≤ b) (hb : b ≤ d.size) (hsz : d.size < 4611686018427387904) :
    Calls Try.prog 32 #[.slice (some ⟨blk, off, none⟩) d.size cap, .int .i64 a, .int .i64 b, .func (.func g) #[] cb] w fun e w' =>
      e = .returned (.tuple #[]) ∧ ∃ n os, w' = sortWorldK enc k w blk off n (Sort.insertionSort (ltOf cf) d a b) os := AnyQ.insertionSortCmpFunc Lay.laysSlF020_f32 k aE zE enc hk h1 cf g cb blk off cap a b d w eg hcmp hH hblk hab hb hsz
end Go.Proofs.Qxb6608749a
