/-
  What the four laws share: the stamp of the entries, its components, plain laws of the last count.
-/
import Derived.Test.Qxb6608749aCopy
namespace Go.Proofs.Qxb6608749a.Law
open Go.RowKit Go.Shelf Stable

/-! ### plain -/
theorem filt_append (p : Int) (a b : List (Int × Int)) : filt p (a ++ b) = filt p a ++ filt p b := by unfold filt; simp
theorem nm_filt (l : List (Int × Int)) (p : Int) : nm l p = true ↔ filt p l ≠ [] := by
  unfold nm filt
  rw [List.any_eq_true]
  constructor
  · rintro ⟨x, hx, h⟩ e
    have := List.mem_filter (p := fun x => x.1 == p) |>.2 ⟨hx, h⟩
    rw [e] at this
    simp at this
  · intro h
    obtain ⟨x, hx⟩ := List.exists_mem_of_ne_nil _ h
    obtain ⟨h1, h2⟩ := List.mem_filter.1 hx
    exact ⟨x, h1, h2⟩
theorem lastOf_append (a b : List (Int × Int)) : lastOf (a ++ b) = if b = [] then lastOf a else lastOf b := by
  by_cases h : b = []
  · rw [if_pos h, h, List.append_nil]
  · rw [if_neg h]
    unfold lastOf
    rw [List.getLast?_append]
    obtain ⟨x, hx⟩ : ∃ x, b.getLast? = some x := ⟨b.getLast h, List.getLast?_eq_some_getLast h⟩
    rw [hx]
    rfl
theorem lastC_append (a b : List (Int × Int)) (p : Int) : lastC (a ++ b) p = if nm b p = true then lastC b p else lastC a p := by
  rw [lastC_filt, lastC_filt, lastC_filt, filt_append, lastOf_append]
  by_cases h : filt p b = []
  · rw [if_pos h, if_neg (by rw [nm_filt]; simpa using h)]
  · rw [if_neg h, if_pos ((nm_filt b p).2 h)]
theorem lastC_cut (l : List (Int × Int)) (c : Nat) (p : Int) : lastC l p = if nm (l.drop c) p = true then lastC (l.drop c) p else lastC (l.take c) p := by
  rw [← lastC_append, List.take_append_drop]
theorem lastC_last (l : List (Int × Int)) (k : Nat) (h : l.length = k + 1) : lastC l (ent l k).1 = (ent l k).2 := by
  unfold lastC
  rw [h, lcTo, if_pos rfl]
theorem dom_take {l : List (Int × Int)} (h : dom l = true) (c : Nat) : dom (l.take c) = true := by
  unfold dom at *
  rw [List.all_eq_true] at *
  exact fun x hx => h x (List.mem_of_mem_take hx)
theorem dom_drop {l : List (Int × Int)} (h : dom l = true) (c : Nat) : dom (l.drop c) = true := by
  unfold dom at *
  rw [List.all_eq_true] at *
  exact fun x hx => h x (List.mem_of_mem_drop hx)
theorem dom_ent {l : List (Int × Int)} (h : dom l = true) (j : Nat) (hj : j < l.length) : 0 ≤ (ent l j).1 := (dom_at h (ent_mem l j hj)).1

/-! ### memory -/
theorem ent_take (l : List (Int × Int)) (c j : Nat) (h : j < c) : ent (l.take c) j = ent l j := by
  unfold ent; simp [List.getD_eq_getElem?_getD, h]
theorem ent_drop (l : List (Int × Int)) (c j : Nat) : ent (l.drop c) j = ent l (c + j) := by
  unfold ent; simp [List.getD_eq_getElem?_getD]
theorem Ent.take {W : World} {a : Option Addr} {l : List (Int × Int)} (h : Ent W a l) (c : Nat) : Ent W a (l.take c) := by
  rcases h with rfl | ⟨b, o, rfl, hlt, hc⟩
  · exact .inl (by simp)
  · refine .inr ⟨b, o, rfl, hlt, fun j hj => ?_⟩
    rw [List.length_take] at hj
    rw [ent_take l c j (by omega)]
    exact hc j (by omega)
/-- Where entries[c:] lies. -/
def dropA (a : Option Addr) (cap c : Nat) : Option Addr := if cap = c then a else a.map (·.add (c * 2))
theorem Ent.drop {W : World} {a : Option Addr} {l : List (Int × Int)} (h : Ent W a l) (cap c : Nat) (hl : l.length ≤ cap) : Ent W (dropA a cap c) (l.drop c) := by
  by_cases hlc : l.length ≤ c
  · exact .inl (List.drop_eq_nil_of_le hlc)
  · rcases h with rfl | ⟨b, o, rfl, hlt, hc⟩
    · exact .inl (by simp)
    · have e : dropA (some ⟨b, o, none⟩) cap c = some ⟨b, o + c * 2, none⟩ := by
        unfold dropA
        rw [if_neg (by omega)]
        show some (Addr.add _ _) = _
        unfold Addr.add
        split
        · rename_i h0; rw [h0, Nat.add_zero]
        · rfl
      refine .inr ⟨b, o + c * 2, e, hlt, fun j hj => ?_⟩
      rw [List.length_drop] at hj
      rw [ent_drop]
      have := hc (c + j) (by omega)
      rw [show o + c * 2 + j * 2 = o + (c + j) * 2 by omega]
      exact this
theorem run_hi (W : World) (a : Option Addr) (n cap c : Nat) (h : c ≤ cap) :
    (Instr.slice 22 (.slice a n cap) none (some (.int .i64 (c : Int))) none).run Try.prog W = .ok (.slice a c cap) W := by
  have hs : (sizeOf (Try.prog.elem 22)).run Try.prog W = .ok 2 W := Try.sizeOf29 W
  rw [run_slice_h W 22 a n cap Try.underlying22 .i64 c (by omega) (by omega), hs]
  have e : (if cap = 0 then a else a.map (·.add (0 * 2))) = a := by
    split
    · rfl
    · cases a with
      | none => rfl
      | some x => simp [Addr.add]
  show Result.ok (sliced a 0 (c : Int).toNat cap 2) W = _
  unfold sliced
  rw [e, Int.toNat_natCast]
  rfl
theorem run_lo (W : World) (a : Option Addr) (n cap c : Nat) (h : c ≤ n) :
    (Instr.slice 22 (.slice a n cap) (some (.int .i64 (c : Int))) none none).run Try.prog W = .ok (.slice (dropA a cap c) (n - c) (cap - c)) W := by
  have hs : (sizeOf (Try.prog.elem 22)).run Try.prog W = .ok 2 W := Try.sizeOf29 W
  rw [run_slice_l W 22 a n cap Try.underlying22 .i64 c (by omega) (by omega), hs]
  show Result.ok (sliced a (c : Int).toNat n cap 2) W = _
  rw [Int.toNat_natCast]
  rfl

/-! ### contracts -/
/-- The stamp with the field .slice sa sn sc is, in W, the stamp of the entries l. -/
def Holds (W : World) (sa : Option Addr) (sn sc : Nat) (l : List (Int × Int)) : Prop := ∃ P, StampIs W (.slice sa sn sc) P ∧ PairsOf l P
theorem Holds.later {W W' : World} {sa : Option Addr} {sn sc : Nat} {l : List (Int × Int)} (h : Holds W sa sn sc l) (hb : Below W.heap.size W W') : Holds W' sa sn sc l := by
  obtain ⟨P, h1, h2⟩ := h
  exact ⟨P, h1.later hb, h2⟩
theorem new_c (a : Option Addr) (n cap : Nat) (l : List (Int × Int)) (w : World) (hn : l.length = n) (hlen : n ≤ 5000) (hL : Ent w a l) (hd : dom l = true) (hx : ∀ x ∈ l, x.1 ≤ 9223372036854775807) :
    Calls Try.prog 9 #[.slice a n cap] w fun e W' => ∃ sa sn sc, e = .returned (.agg #[.slice sa sn sc]) ∧ Holds W' sa sn sc l ∧ Below w.heap.size w W' := by
  subst hn
  exact (zznew_any a cap l w hlen hL hd hx).mono fun e w' ⟨sa, sn, sc, P, he, h1, h2, h3⟩ => ⟨sa, sn, sc, he, ⟨P, h1, h2⟩, h3⟩
theorem at_c (sa : Option Addr) (sn sc : Nat) (l : List (Int × Int)) (p : Int) (w : World) (h : Holds w sa sn sc l) (hl : l.length ≤ 5000) (hp : 0 ≤ p) :
    Calls Try.prog 10 #[.agg #[.slice sa sn sc], .int .i64 p] w fun e w' => e = .returned (.int .i64 (lastC l p)) ∧ Below w.heap.size w w' := by
  obtain ⟨P, h1, h2⟩ := h
  rw [← h2.look]
  exact at_any _ P p w h1 h2.up (by have := h2.len; omega) hp
theorem names_c (a : Option Addr) (n cap : Nat) (l : List (Int × Int)) (p : Int) (w : World) (hn : l.length = n) (hE : Ent w a l) (hl : n ≤ 1048576) :
    Calls Try.prog 16 #[.slice a n cap, .int .i64 p] w fun e w' => e = .returned (.bool (nm l p)) ∧ w' = w := by
  subst hn
  exact namesProc_any a cap l p w hE hl
theorem count_c (a : Option Addr) (n cap : Nat) (l : List (Int × Int)) (p : Int) (w : World) (hn : l.length = n) (hE : Ent w a l) (hl : n ≤ 1048576) :
    Calls Try.prog 11 #[.slice a n cap, .int .i64 p] w fun e w' => e = .returned (.int .i64 (lastC l p)) ∧ w' = w := by
  subst hn
  exact lastCount_any a cap l p w hE hl
theorem dom_c (a : Option Addr) (n cap : Nat) (l : List (Int × Int)) (w : World) (hn : l.length = n) (hE : Ent w a l) (hl : n ≤ 1048576) :
    Calls Try.prog 8 #[.slice a n cap] w fun e w' => e = .returned (.bool (dom l)) ∧ w' = w := by
  subst hn
  exact inDomain_any a cap l w hE hl
theorem copy_c (w : World) (A : Addr) (n cap : Nat) (l : List (Int × Int)) (hn : l.length = n) (hE : Ent w (some A) l) :
    ∃ W', (∀ ty, (Builtin.copy_ #[22, 22] ty #[.slice (some ⟨w.heap.size, 0, none⟩) n n, .slice (some A) n cap]).run Try.prog (w.alloc (.cells (madeCells #[.int .i64 0, .int .i64 0] (n * 2)) 29)) = .ok (goInt n) W') ∧
      Ent W' (some ⟨w.heap.size, 0, none⟩) l ∧ Below w.heap.size w W' := by
  subst hn
  exact copy_step w A cap l hE
#print axioms copy_c
end Go.Proofs.Qxb6608749a.Law
