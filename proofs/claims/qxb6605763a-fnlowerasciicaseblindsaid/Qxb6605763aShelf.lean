/-
  The library contracts strings.indexFunc and strings.IndexFunc at this dump, in plain words (written by the kit's lay-shelf.mjs and lay-plain.mjs for this program).
-/
import Derived.Shelf.GgClosure.StringsIndexFunc
import Derived.Shelf.GgClosure.StringsIndexFuncTop
import Derived.Test.Qxb6605763aProg
namespace Go.Proofs.Qxb6605763a
open Go.Shelf
def Lay.lays315_ren : Go.Shelf.Ren := ⟨fun | 315 => 32 | n => n, fun | 9 => 9 | 40 => 46 | 4 => 4 | 3 => 3 | 0 => 0 | 21 => 21 | n => n, fun | n => n⟩
theorem Lay.lays315 : Go.Proofs.Lays.n315 Try.prog Lay.lays315_ren := {
  mixed := by kernel_rfl
  f315 := Try.func32.trans (congrArg some (by kernel_rfl))
  t0 := Try.underlying0
  a0 := Try.isAgg0
  z0 := Try.sizeOf0
  v0 := Try.zeroValue0
  t3 := Try.underlying3
  a3 := Try.isAgg3
  z3 := Try.sizeOf3
  v3 := Try.zeroValue3
  t4 := Try.underlying4
  a4 := Try.isAgg4
  z4 := Try.sizeOf4
  v4 := Try.zeroValue4
  t9 := Try.underlying9
  a9 := Try.isAgg9
  z9 := Try.sizeOf9
  v9 := Try.zeroValue9
  t21 := Try.underlying21
  a21 := Try.isAgg21
  z21 := Try.sizeOf21
  v21 := Try.zeroValue21
  t40 := Try.underlying46
  a40 := Try.isAgg46
  z40 := Try.sizeOf46
  v40 := Try.zeroValue46 }
open Go.RowKit Go.Lib in
theorem Lay.strings_indexFunc (g : Nat) (lb : Array Value) (eg : ∀ args w, (callFunc g args).run Try.prog w = .ok (.enter g args) w) (p : Nat → Bool) (truth : Bool) (s : ByteArray) (w : World) (hp : PredAt Try.prog g lb encR p w) :
    Calls Try.prog 32 #[.string s, .func (.func g) #[] lb, .bool truth] w fun e w' => e = .returned (.int .i64 (Lib.idxFunc p truth s)) ∧ Below w.heap.size w w' := Any.strings_indexFunc Lay.lays315 g lb eg p truth s w hp
def Lay.laysGw15_ren : Go.Shelf.Ren := ⟨fun | 15 => 27 | 20 => 32 | n => n, fun | 9 => 9 | 23 => 46 | 3 => 3 | 4 => 4 | 0 => 0 | 21 => 21 | n => n, fun | n => n⟩
theorem Lay.laysGw15 : Go.Proofs.LaysGw.n15 Try.prog Lay.laysGw15_ren := {
  mixed := by kernel_rfl
  f15 := Try.func27.trans (congrArg some (by kernel_rfl))
  f20 := Try.func32.trans (congrArg some (by kernel_rfl))
  t0 := Try.underlying0
  a0 := Try.isAgg0
  z0 := Try.sizeOf0
  v0 := Try.zeroValue0
  i0 := by kernel_rfl
  t3 := Try.underlying3
  a3 := Try.isAgg3
  z3 := Try.sizeOf3
  v3 := Try.zeroValue3
  i3 := by kernel_rfl
  t4 := Try.underlying4
  a4 := Try.isAgg4
  z4 := Try.sizeOf4
  v4 := Try.zeroValue4
  i4 := by kernel_rfl
  t9 := Try.underlying9
  a9 := Try.isAgg9
  z9 := Try.sizeOf9
  v9 := Try.zeroValue9
  i9 := by kernel_rfl
  t21 := Try.underlying21
  a21 := Try.isAgg21
  z21 := Try.sizeOf21
  v21 := Try.zeroValue21
  i21 := by kernel_rfl
  t23 := Try.underlying46
  a23 := Try.isAgg46
  z23 := Try.sizeOf46
  v23 := Try.zeroValue46
  i23 := by kernel_rfl }
open Go.RowKit Go.Lib in
theorem Lay.strings_IndexFunc (g : Nat) (lb : Array Value) (eg : ∀ args w, (callFunc g args).run Try.prog w = .ok (.enter g args) w) (p : Nat → Bool) (s : ByteArray) (w : World) (hp : PredAt Try.prog g lb encR p w) :
    Calls Try.prog 27 #[.string s, .func (.func g) #[] lb] w fun e w' => e = .returned (.int .i64 (Lib.idxFunc p true s)) ∧ Below w.heap.size w w' := Any.strings_IndexFunc Lay.laysGw15 g lb eg p s w hp
end Go.Proofs.Qxb6605763a
