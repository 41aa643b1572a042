/-
  Elements [2]int: how a row of them lies in memory; the row's cells, its exchange.
-/
import Derived.Test.Qxb6608749aRows
import Derived.Test.Qxb6608749aShelf
import Derived.Shelf.SlSortCmp.KitK
import Derived.Deep.LoopGhost
import Derived.WalkKit
import Derived.Outline
namespace Go.Proofs.Qxb6608749a.Stable
open Go.Shelf Go.RowKit Go.Lib Go.Sort

/-- An entry (process, count) as two cells. -/
def encE (x : Int × Int) : List Value := [.int .i64 x.1, .int .i64 x.2]
theorem encE_len (x : Int × Int) : (encE x).length = 2 := rfl
theorem encE_one (x : Int × Int) : ∀ v ∈ encE x, v.oneCell' = true := by
  intro v hv
  simp only [encE, List.mem_cons, List.not_mem_nil, or_false] at hv
  rcases hv with rfl | rfl <;> rfl

theorem flat_at (d : Array (Int × Int)) (t : Nat) (h : t < d.size * 2) : (flatK encE 2 d)[t]! = (encE d[t / 2]!)[t % 2]! := by
  unfold flatK
  rw [getElem!_pos _ t (by simpa using h)]
  simp

theorem holds_cells {W : World} {blk off : Nat} {d : Array (Int × Int)} (h : HoldsK encE 2 W blk off d) (j : Nat) (hj : j < d.size) :
    (W.cell? ⟨blk, off + j * 2, none⟩ = some (.int .i64 d[j]!.1) ∧ W.cell? ⟨blk, off + j * 2 + 1, none⟩ = some (.int .i64 d[j]!.2)) ∧ (W.frozen? ⟨blk, off + j * 2, none⟩ = false ∧ W.frozen? ⟨blk, off + j * 2 + 1, none⟩ = false) := by
  have h0 := h (j * 2) (by rw [size_flatK]; omega)
  have h1 := h (j * 2 + 1) (by rw [size_flatK]; omega)
  rw [flat_at d _ (by omega)] at h0 h1
  have e0 : j * 2 / 2 = j := by omega
  have e1 : j * 2 % 2 = 0 := by omega
  have e2 : (j * 2 + 1) / 2 = j := by omega
  have e3 : (j * 2 + 1) % 2 = 1 := by omega
  rw [e0, e1] at h0
  rw [e2, e3] at h1
  exact ⟨⟨h0.1, h1.1⟩, h0.2, h1.2⟩

def SW (w0 : World) (blk off : Nat) (d : Array (Int × Int)) (W : World) : Prop := SWK encE 2 w0 blk off d W
def Row (w0 : World) (blk off : Nat) (d0 : Array (Int × Int)) : Prop := RowK encE 2 w0 blk off d0

theorem row_mk {w0 : World} {blk off : Nat} {d0 : Array (Int × Int)} (hH : HoldsK encE 2 w0 blk off d0) (hblk : blk < w0.heap.size) : Row w0 blk off d0 := RowK.mk encE_len encE_one hH hblk
theorem row_hblk {w0 : World} {blk off : Nat} {d0 : Array (Int × Int)} (R : Row w0 blk off d0) : blk < w0.heap.size := RowK.hblk R
theorem sw_holds {w0 W : World} {blk off : Nat} {d0 d : Array (Int × Int)} (S : SW w0 blk off d W) (R : Row w0 blk off d0) (hs : d.size = d0.size) : HoldsK encE 2 W blk off d := SWK.holds S (RowK.hblk R) (RowK.hH R) hs
theorem sw_grown {w0 W : World} {blk off : Nat} {d : Array (Int × Int)} (S : SW w0 blk off d W) (n : Nat) (os : Array Obj) : SW w0 blk off d (grow (W.drewN n) os) := SWK.grown S n os

theorem sw_cells {w0 W : World} {blk off : Nat} {d0 d : Array (Int × Int)} (S : SW w0 blk off d W) (R : Row w0 blk off d0) (hs : d.size = d0.size) (j : Nat) (hj : j < d.size) :
    (W.cell? ⟨blk, off + j * 2, none⟩ = some (.int .i64 d[j]!.1) ∧ W.cell? ⟨blk, off + j * 2 + 1, none⟩ = some (.int .i64 d[j]!.2)) ∧ (W.frozen? ⟨blk, off + j * 2, none⟩ = false ∧ W.frozen? ⟨blk, off + j * 2 + 1, none⟩ = false) :=
  holds_cells (sw_holds S R hs) j hj

theorem sw_swap {w0 W : World} {blk off : Nat} {d0 d : Array (Int × Int)} (S : SW w0 blk off d W) (R : Row w0 blk off d0) (i j : Nat) (hi : i < d.size) (hj : j < d.size) :
    SW w0 blk off (swp d i j) ((((W.setCell ⟨blk, off + i * 2, none⟩ (.int .i64 d[j]!.1)).setCell ⟨blk, off + i * 2 + 1, none⟩ (.int .i64 d[j]!.2)).setCell ⟨blk, off + j * 2, none⟩ (.int .i64 d[i]!.1)).setCell ⟨blk, off + j * 2 + 1, none⟩ (.int .i64 d[i]!.2)).drew :=
  SWK.swapped S R i j hi hj

/-- What the second run of stores of an exchange meets. -/
theorem swap_late {W : World} {blk off : Nat} {d : Array (Int × Int)} (i j : Nat) (hne : i ≠ j) (v1 v2 v3 : Value)
    (h0 : W.cell? ⟨blk, off + j * 2, none⟩ = some (.int .i64 d[j]!.1)) (h1 : W.cell? ⟨blk, off + j * 2 + 1, none⟩ = some (.int .i64 d[j]!.2)) :
    ((W.setCell ⟨blk, off + i * 2, none⟩ v1).setCell ⟨blk, off + i * 2 + 1, none⟩ v2).cell? ⟨blk, off + j * 2, none⟩ = some (.int .i64 d[j]!.1) ∧
    (((W.setCell ⟨blk, off + i * 2, none⟩ v1).setCell ⟨blk, off + i * 2 + 1, none⟩ v2).setCell ⟨blk, off + j * 2, none⟩ v3).cell? ⟨blk, off + j * 2 + 1, none⟩ = some (.int .i64 d[j]!.2) := by
  have ne : ∀ x y : Nat, x ≠ y → (⟨blk, x, none⟩ : Addr) ≠ ⟨blk, y, none⟩ := fun x y h e => h (by injection e)
  constructor
  · rw [World.cell?_setCell_other _ _ _ _ (ne _ _ (by omega)), World.cell?_setCell_other _ _ _ _ (ne _ _ (by omega))]; exact h0
  · rw [World.cell?_setCell_other _ _ _ _ (ne _ _ (by omega)), World.cell?_setCell_other _ _ _ _ (ne _ _ (by omega)), World.cell?_setCell_other _ _ _ _ (ne _ _ (by omega))]; exact h1
end Go.Proofs.Qxb6608749a.Stable
