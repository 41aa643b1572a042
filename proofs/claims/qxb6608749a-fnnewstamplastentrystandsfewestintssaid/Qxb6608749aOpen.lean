/-
  The entries, as the row hands them in.
-/
import Derived.Test.Qxb6608749aEnt
import Derived.OpenShut
import Derived.Deep.Slices
namespace Go.Proofs.Qxb6608749a.Law
open Go.RowKit Go.Deep

/-- What the walk is told of the entries that came in. -/
structure EntV (W : World) (a : Option Addr) (n cap : Nat) (l : List (Int × Int)) : Prop where
  len : l.length = n
  ent : Ent W a l
  wf : ∀ x ∈ l, x.1 ≤ 9223372036854775807
  nil : a = none → n = 0 ∧ cap = 0
  cap : n ≤ cap

section
variable {H : Type} {enc : TypeId × Value → H} {w : World} {base : Nat} {spare : Nat → Bool} {held : Bool}
theorem addp (b o k : Nat) : (⟨b, o, none⟩ : Addr).add k = ⟨b, o + k, none⟩ := by unfold Addr.add; split <;> simp_all
theorem cells3 : Try.prog.cellsOf 3 = 1 := by kernel_rfl
theorem cells29 : Try.prog.cellsOf 29 = 2 := by kernel_rfl
theorem open_ent {fuel : Nat} {a : Option Addr} {len cap : Nat} {x : DataW H × List MemPlace} (h : DataW.trod enc Try.prog w base spare held fuel 22 [.slice a len cap] = some x) : ∃ l, EntV w a len cap l := by
  rcases open_slice Try.underlying22 h with ⟨hcs, _⟩ | ⟨A, l, c, m, n, D, Pl, hcs, hb, hl, hm, hmm, _, hx⟩
  · simp at hcs
    obtain ⟨rfl, rfl, rfl⟩ := hcs
    exact ⟨[], rfl, .inl rfl, by simp, fun _ => ⟨rfl, rfl⟩, Nat.le_refl _⟩
  · simp at hcs
    obtain ⟨rfl, rfl, rfl⟩ := hcs
    have hlm : len ≤ m := by rw [hmm]; split <;> omega
    have each : ∀ i, i < len → ∃ q : Int × Int, (w.cell? (A.add (i * 2)) = some (.int .i64 q.1) ∧ w.cell? (A.add (i * 2 + 1)) = some (.int .i64 q.2)) ∧ q.1 ≤ 9223372036854775807 := by
      intro i hi
      obtain ⟨cs', h1, h2⟩ := hx i (by omega)
      rw [cells29] at h1
      obtain ⟨_, hlen, hcell⟩ := World.cells?_some h1
      obtain ⟨xs, k, _, _, _, hxl, hf⟩ := DataW.trod_array Try.underlying29 h2
      match cs', hlen with
      | [v0, v1], _ =>
        have g0 := hf 0 (by omega)
        have g1 := hf 1 (by omega)
        rw [cells3] at g0 g1
        obtain ⟨y0, hy0⟩ : ∃ y, xs[0]? = some y := ⟨xs[0], List.getElem?_eq_getElem (by omega)⟩
        obtain ⟨y1, hy1⟩ : ∃ y, xs[1]? = some y := ⟨xs[1], List.getElem?_eq_getElem (by omega)⟩
        rw [hy0] at g0
        rw [hy1] at g1
        obtain ⟨n0, e0, _, w0⟩ := DataW.trod_int Try.underlying3 g0
        obtain ⟨n1, e1, _, _⟩ := DataW.trod_int Try.underlying3 g1
        simp at e0 e1
        subst e0 e1
        have c0 := hcell 0 (by omega)
        have c1 := hcell 1 (by omega)
        rw [add_add] at c0 c1
        exact ⟨(n0, n1), ⟨by simpa using c0, by simpa using c1⟩, (bounds_i64 w0).2⟩
    obtain ⟨f, hf⟩ := choose_lt each
    have hge : ∀ j, j < len → Law.ent ((List.range len).map f) j = f j := fun j hj => by
      unfold Law.ent
      simp [List.getD_eq_getElem?_getD, hj]
    refine ⟨(List.range len).map f, by simp, ?_, ?_, fun e => (by cases e), hl⟩
    · by_cases h0 : len = 0
      · exact .inl (by rw [h0]; rfl)
      · have hc0 := (hf 0 (by omega)).1.1
        have hlt : A.block < w.heap.size := by
          have := World.block_lt_of_cell? _ _ hc0
          simpa [Addr.add] using this
        have hsp : A.spot = none := by
          cases hs : A.spot with
          | none => rfl
          | some s => 
            exfalso
            have : (A.add (0 * 2)) = A := by simp [Addr.add]
            rw [this] at hc0
            unfold World.cell? at hc0
            rw [hs] at hc0
            split at hc0 <;> simp at hc0
        obtain ⟨b, o, sp⟩ := A
        simp at hsp
        subst hsp
        refine .inr ⟨b, o, rfl, hlt, fun j hj => ?_⟩
        have hj' : j < len := by simpa using hj
        rw [hge j hj']
        have := (hf j hj').1
        rw [addp, addp] at this
        exact this
    · intro x hx
      obtain ⟨j, hj, rfl⟩ := List.mem_map.1 hx
      exact (hf j (List.mem_range.1 hj)).2
end
#print axioms open_ent
end Go.Proofs.Qxb6608749a.Law
