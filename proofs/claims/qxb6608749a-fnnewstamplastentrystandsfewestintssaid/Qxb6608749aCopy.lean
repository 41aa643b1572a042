/-
  'own := make([][2]int, len(entries)); copy(own, entries)'.
-/
import Derived.Test.Qxb6608749aZZ
import Derived.Laws.CopyRow
namespace Go.Proofs.Qxb6608749a.Law
open Go.RowKit Go.Shelf Stable

theorem run_copy2 {P : Program} (w : World) (dT sT ty elem : TypeId) (g dLen dCap : Nat) (a : Addr) (sLen sCap : Nat) (cur : Array Value) (t : TypeId) (cs : List Value)
    (hu : P.underlying dT = some (.slice elem)) (hs : (P.info? elem).map (·.size) = some 2)
    (hg : w.heap[g]? = some (.cells cur t (0, 0))) (hn : cs.length = Nat.min sLen dLen * 2)
    (hsrc : ∀ j v, cs[j]? = some v → w.cell? (a.add j) = some v) (hfit : cs.length ≤ cur.size) (h1 : ∀ v ∈ cs, v.oneCell' = true) :
    (Builtin.copy_ #[dT, sT] ty #[.slice (some ⟨g, 0, none⟩) dLen dCap, .slice (some a) sLen sCap]).run P w =
      .ok (goInt (Nat.min sLen dLen)) (w.setRow g (cur.toList.take 0 ++ cs ++ cur.toList.drop (0 + cs.length)).toArray) := by
  have hl := run_loadCells_list (P := P) w a cs hsrc
  have hst := run_storeCells_at P g 0 t cs 0 cur w hg (by simpa using hfit) h1
  cases hq : P.info? elem with
  | none => simp [hq] at hs
  | some i =>
    have hi : i.size = 2 := by simpa [hq] using hs
    simp [Builtin.copy_, run_underlying hu, Builtin.lenOf, Builtin.firstCells, sizeOf, typeInfo, hq, hi, ← hn, hl]
    have hst' : (storeCells ⟨g, 0, none⟩ cs).run P w = .ok () (w.setRow g (cs ++ cur.toList.drop cs.length).toArray) := by simpa using hst
    rw [hst']
    rfl

theorem run_mk22 (W : World) (n c : Nat) (hc : n ≤ c) (hn : c ≤ 5000) :
    (Instr.makeSlice 22 (.int .i64 (n : Int)) (.int .i64 (c : Int))).run Try.prog W = .ok (.slice (some ⟨W.heap.size, 0, none⟩) n c) (W.alloc (.cells (madeCells #[.int .i64 0, .int .i64 0] (c * 2)) 29)) := by
  obtain ⟨i, hi, hz0, hz1, hz2⟩ := info_parts info29
  have h := run_make (P := Try.prog) W 22 29 i _ Try.underlying22 hi hz0 .i64 .i64 n c (by omega) (by omega) (by rw [hz2]; omega) (by omega)
  rw [hz1, Int.toNat_natCast, Int.toNat_natCast] at h
  exact h

theorem natmin (n : Nat) : Nat.min n n = n := Nat.min_self n
theorem size29 : (Try.prog.info? 29).map (·.size) = some 2 := by kernel_rfl

theorem flat_one (l : List (Int × Int)) : ∀ v ∈ flat l, v.oneCell' = true := by
  intro v hv
  unfold flat at hv
  rw [List.mem_flatMap] at hv
  obtain ⟨x, _, hx⟩ := hv
  simp at hx
  rcases hx with rfl | rfl <;> rfl

theorem copy_step (w : World) (A : Addr) (cap : Nat) (l : List (Int × Int)) (hE : Ent w (some A) l) :
    ∃ W', (∀ ty, (Builtin.copy_ #[22, 22] ty #[.slice (some ⟨w.heap.size, 0, none⟩) l.length l.length, .slice (some A) l.length cap]).run Try.prog (w.alloc (.cells (madeCells #[.int .i64 0, .int .i64 0] (l.length * 2)) 29)) = .ok (goInt l.length) W') ∧
      Ent W' (some ⟨w.heap.size, 0, none⟩) l ∧ Below w.heap.size w W' := by
  have hsz : (madeCells #[Value.int .i64 0, .int .i64 0] (l.length * 2)).size = l.length * 2 := size_madeCells _ _
  generalize madeCells #[Value.int .i64 0, .int .i64 0] (l.length * 2) = X at *
  have hb0 : Below w.heap.size w (w.alloc (.cells X 29)) := (Below.refl _ w).alloc (Nat.le_refl _) _
  have hg : (w.alloc (.cells X 29)).heap[w.heap.size]? = some (.cells X 29 (0, 0)) := World.alloc_heap_new w _
  have hsrc : ∀ j v, (flat l)[j]? = some v → (w.alloc (.cells X 29)).cell? (A.add j) = some v := by
    intro j v hv
    have hj : j < l.length * 2 := by rw [← flat_length]; exact (List.getElem?_eq_some_iff.1 hv).1
    rw [flat_at l j hj] at hv
    rcases hE with rfl | ⟨b, o, e, hlt, hc⟩
    · simp at hj
    · injection e with e
      subst e
      have hadd : (⟨b, o, none⟩ : Addr).add j = ⟨b, o + j, none⟩ := by unfold Addr.add; split <;> simp_all
      rw [hadd, hb0.cell (p := ⟨b, o + j, none⟩) hlt]
      obtain ⟨c0, c1⟩ := hc (j / 2) (by omega)
      rw [← hv]
      rcases Nat.mod_two_eq_zero_or_one j with h | h
      · rw [h, show o + j = o + j / 2 * 2 by omega]; exact c0
      · rw [h, show o + j = o + j / 2 * 2 + 1 by omega]; exact c1
  refine ⟨_, fun ty => by rw [run_copy2 _ 22 22 ty 29 w.heap.size _ _ _ _ _ X 29 (flat l) Try.underlying22 size29 hg (by rw [flat_length, natmin]) hsrc (by rw [flat_length, hsz]; exact Nat.le_refl _) (flat_one l), natmin], ?_, ?_⟩
  · have hrow : ((w.alloc (.cells X 29)).setRow w.heap.size (X.toList.take 0 ++ flat l ++ X.toList.drop (0 + (flat l).length)).toArray).heap[w.heap.size]? = some (.cells (X.toList.take 0 ++ flat l ++ X.toList.drop (0 + (flat l).length)).toArray 29 (0, 0)) := setRow_heap _ _ X _ _ _ hg
    refine .inr ⟨w.heap.size, 0, rfl, (Array.getElem?_eq_some_iff.1 hrow).1, fun j hj => ?_⟩
    have hat : ∀ t, t < l.length * 2 → ((w.alloc (.cells X 29)).setRow w.heap.size (X.toList.take 0 ++ flat l ++ X.toList.drop (0 + (flat l).length)).toArray).cell? ⟨w.heap.size, t, none⟩ = some ((encE (ent l (t / 2)))[t % 2]!) := by
      intro t ht
      simp only [World.cell?, hrow]
      rw [← flat_at l t ht]
      simp [List.getElem?_append, flat_length, ht]
    have h0 := hat (j * 2) (by omega)
    have h1 := hat (j * 2 + 1) (by omega)
    rw [show j * 2 / 2 = j by omega, show j * 2 % 2 = 0 by omega] at h0
    rw [show (j * 2 + 1) / 2 = j by omega, show (j * 2 + 1) % 2 = 1 by omega] at h1
    rw [show 0 + j * 2 = j * 2 by omega]
    exact ⟨h0, h1⟩
  · exact hb0.trans ⟨rfl, rfl, rfl, by simp [World.setRow], fun k hk => setRow_other _ _ k _ (by omega)⟩
#print axioms copy_step
end Go.Proofs.Qxb6608749a.Law
