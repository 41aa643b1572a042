/-
  trace.ZZNewStamp, (Stamped).K.
-/
import Derived.Test.Qxb6608749aNew
namespace Go.Proofs.Qxb6608749a.Law
open Go.RowKit Go.Shelf

set_option maxRecDepth 100000 in
set_option maxHeartbeats 1000000 in
theorem zznew_any (a : Option Addr) (cap : Nat) (l : List (Int × Int)) (w : World) (hlen : l.length ≤ 5000) (hL : Ent w a l) (hd : dom l = true) (hx : ∀ x ∈ l, x.1 ≤ 9223372036854775807) :
    Calls Try.prog 9 #[.slice a l.length cap] w fun e W' => ∃ sa sn sc P, e = .returned (.agg #[.slice sa sn sc]) ∧ StampIs W' (.slice sa sn sc) P ∧ PairsOf l P ∧ Below w.heap.size w W' := by
  have hB0 : Below w.heap.size w ((w.alloc (.cells #[.slice a l.length cap] 22)).alloc (.cells #[.slice none 0 0] 27)) := ((Below.refl _ w).alloc (Nat.le_refl _) _).alloc (by simp) _
  have hC : Calls Try.prog 20 #[.func (.func 21) #[] #[.pointer (some ⟨w.heap.size, 0, none⟩)]] ((w.alloc (.cells #[.slice a l.length cap] 22)).alloc (.cells #[.slice none 0 0] 27)) fun e W' => ∃ sa sn sc, e = .returned (.agg #[.slice sa sn sc]) ∧ W'.cell? ⟨w.heap.size + 1, 0, none⟩ = some (.slice none 0 0) ∧ W'.frozen? ⟨w.heap.size + 1, 0, none⟩ = false ∧ Aside (∃ P, StampIs W' (.slice sa sn sc) P ∧ PairsOf l P ∧ Below w.heap.size w W') := by
    refine (new_any w.heap.size w.heap.size cap a l _ hlen (by simp; omega) (by simp; omega) (by simp) (hL.toB.below hB0) hd hx).mono ?_
    rintro e W' ⟨sv, P, rfl, hS, hP, hB⟩
    obtain ⟨sa, sn, sc, rfl⟩ := hS.shape
    exact ⟨sa, sn, sc, rfl, (hB.cell (p := ⟨w.heap.size + 1, 0, none⟩) (by simp)).trans (by simp), (hB.frozen (p := ⟨w.heap.size + 1, 0, none⟩) (by simp)).trans (by simp), P, hS, hP, hB0.trans (hB.mono (by simp; omega))⟩
  clear hL hd hx hB0 hlen
  go_enter Try.func9, Try.ntmps9
  go_wp2_with (go_at_call 20; refine hC.mono ?_; rintro e W2 ⟨sa, sn, sc, rfl, hcR, hfR, HST⟩)
  obtain ⟨P, hS, hP, hB⟩ := HST.out
  have hres : (W2.setCell ⟨w.heap.size + 1, 0, none⟩ (.slice sa sn sc)).cell? ⟨w.heap.size + 1, 0, none⟩ = some (.slice sa sn sc) := World.cell?_setCell_same _ _ _ hcR
  refine bodyPost_ret (v := .agg #[.slice sa sn sc]) (by simp [results, Try.results9, go_sem, hres]) rfl ?_
  exact ⟨sa, sn, sc, P, rfl, hS.other (w.heap.size + 1) (fun n => by rw [hcR]; simp) (by simp) (fun p hp => World.cell?_of_block (Below.heap_setCell _ _ _ _ hp)), hP, hB.setCell (p := ⟨w.heap.size + 1, 0, none⟩) (by simp) _⟩

#print axioms zznew_any
end Go.Proofs.Qxb6608749a.Law
