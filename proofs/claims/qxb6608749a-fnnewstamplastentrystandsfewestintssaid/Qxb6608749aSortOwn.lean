/-
  slices.SortStableFunc on a slice of the call's own.
-/
import Derived.Test.Qxb6608749aStable
import Derived.Test.Qxb6608749aEnt
import Derived.Laws.AppendOwn
namespace Go.Proofs.Qxb6608749a.Law
open Go.Shelf Go.RowKit Go.Lib Go.Sort Stable

theorem sw_grownBy {W W' : World} {blk off : Nat} {d : Array (Int × Int)} (S : SW W blk off d W') : W.grownBy W' (some blk) := by
  obtain ⟨n, os, rfl⟩ := S
  refine ⟨rfl, rfl, rfl, ?_, fun k hk hne => ?_⟩
  · unfold sortWorldK; rw [size_grow, size_putRowK]; exact Nat.le_add_right _ _
  · unfold sortWorldK
    rw [heap_grow_old _ _ (by rw [size_putRowK]; exact hk)]
    unfold putRowK putRow mapBlock
    show (W.heap.modify blk _)[k]? = _
    rw [Array.getElem?_modify]
    rw [if_neg (fun e => hne (by rw [e]))]

/-- The cells of the entries, one behind the other. -/
def flat (l : List (Int × Int)) : List Value := l.flatMap fun x => [.int .i64 x.1, .int .i64 x.2]
theorem flat_length (l : List (Int × Int)) : (flat l).length = l.length * 2 := by
  induction l with
  | nil => rfl
  | cons x l ih => show (flat l).length + 2 = _; rw [ih]; simp [Nat.succ_mul]
theorem flat_snoc (l : List (Int × Int)) (x : Int × Int) : flat (l ++ [x]) = flat l ++ [.int .i64 x.1, .int .i64 x.2] := by
  unfold flat; simp
theorem flat_at (l : List (Int × Int)) (t : Nat) (h : t < l.length * 2) : (flat l)[t]? = some ((encE (ent l (t / 2)))[t % 2]!) := by
  induction l generalizing t with
  | nil => simp at h
  | cons x l ih =>
    show ([Value.int .i64 x.1, .int .i64 x.2] ++ flat l)[t]? = _
    match t with
    | 0 => rfl
    | 1 => rfl
    | t + 2 =>
      rw [List.getElem?_append_right (by simp)]
      have e1 : (t + 2) / 2 = t / 2 + 1 := by omega
      have e2 : (t + 2) % 2 = t % 2 := by omega
      rw [e1, e2]
      have hl : (x :: l).length = l.length + 1 := rfl
      have h' := ih t (by omega)
      show (flat l)[t]? = _
      rw [h']
      rfl

theorem toArray_get (l : List (Int × Int)) (j : Nat) (h : j < l.length) : l.toArray[j]! = ent l j := by
  rw [ent_get l j h, getElem!_pos l.toArray j (by simpa using h)]; simp

theorem holds_of_owns {W : World} {n₀ : Nat} {l : List (Int × Int)} {g cap : Nat} (h : W.ownsRow n₀ 29 2 (.slice (some ⟨g, 0, none⟩) l.length cap) l.length (flat l)) : HoldsK encE 2 W g 0 l.toArray ∧ g < W.heap.size ∧ n₀ ≤ g := by
  rcases h.2 with ⟨h0, _⟩ | ⟨g', cap', cur, e, hb, hg, hn, hm, hs, ht⟩
  · simp at h0
  · injection e with e1 e2 e3
    injection e1 with e1
    injection e1 with e1
    subst e1
    refine ⟨fun t ht' => ?_, (Array.getElem?_eq_some_iff.1 hg).1, hb⟩
    rw [size_flatK] at ht'
    have ht2 : t < l.length * 2 := by simpa using ht'
    have hc : cur.toList[t]? = (flat l)[t]? := by rw [← ht, List.getElem?_take_of_lt ht2]
    rw [flat_at l t ht2] at hc
    rw [Nat.zero_add]
    have hfl : (flatK encE 2 l.toArray)[t]! = (encE (ent l (t / 2)))[t % 2]! := by
      rw [Stable.flat_at l.toArray t (by simpa using ht2), toArray_get l (t / 2) (by omega)]
    refine ⟨?_, ?_⟩
    · show W.cell? ⟨g, t, none⟩ = some (id _)
      rw [id, hfl]
      simp only [World.cell?, hg]
      rw [← hc]
      simp
    · simp [World.frozen?, hg]

theorem insertion_nil (w : World) :
    Calls Try.prog 32 #[.slice none 0 0, .int .i64 0, .int .i64 0, .func (.func 25) #[] #[]] w fun e w' => e = .returned (.tuple #[]) ∧ w' = w := by
  go_enter Try.func32, Try.ntmps32
  go_wp2
  go_loop [8] (fun i => i = .int .i64 1) (fun _ => 0)
  case atStart => rfl
  case round =>
    subst hrel
    go_wp2
    go_end0
    exact ⟨rfl, rfl⟩
theorem stable_nil (w : World) :
    Calls Try.prog 29 #[.slice none 0 0, .int .i64 0, .func (.func 25) #[] #[]] w fun e w' => e = .returned (.tuple #[]) ∧ w' = w := by
  go_enter Try.func29, Try.ntmps29
  go_wp2
  go_loop [7, 8] (fun a b => a = .int .i64 0 ∧ b = .int .i64 20) (fun _ _ => 0)
  case atStart => exact ⟨rfl, rfl⟩
  case round =>
    obtain ⟨rfl, rfl⟩ := hrel
    go_wp2_with (go_at_call 32; refine (insertion_nil _).mono ?_; rintro e w1 ⟨rfl, hw⟩; subst hw)
    go_loop [6] (fun a => a = .int .i64 20) (fun _ => 0)
    case atStart => rfl
    case round =>
      subst hrel
      go_wp2
      go_end0
      exact ⟨rfl, rfl⟩
theorem sort_nil (w : World) :
    Calls Try.prog 24 #[.slice none 0 0, .func (.func 25) #[] #[]] w fun e w' => e = .returned (.tuple #[]) ∧ w' = w := by
  go_enter Try.func24, Try.ntmps24
  go_wp2_with (go_at_call 29; refine (stable_nil _).mono ?_; rintro e w1 ⟨rfl, hw⟩; subst hw)
  go_end0
  exact ⟨rfl, rfl⟩

theorem sort_own (n₀ g cap : Nat) (l : List (Int × Int)) (W : World) (hl : l.length < 1099511627776) (h : W.ownsRow n₀ 29 2 (.slice (some ⟨g, 0, none⟩) l.length cap) l.length (flat l)) :
    Calls Try.prog 24 #[.slice (some ⟨g, 0, none⟩) l.length cap, .func (.func 25) #[] #[]] W fun e w' => e = .returned (.tuple #[]) ∧ ∃ d, Keep 0 l.length l.toArray d ∧ Srt d 0 l.length ∧ HoldsK encE 2 w' g 0 d ∧ W.grownBy w' (some g) := by
  obtain ⟨hH, hg, _⟩ := holds_of_owns h
  have R := row_mk hH hg
  have hC := stable_any g 0 cap l.length l.toArray W R (by simp) (SWK.start hH) hl
  have hC' : Calls Try.prog 29 #[.slice (some ⟨g, 0, none⟩) l.length cap, .int .i64 l.length, .func (.func 25) #[] #[]] W fun e w' => e = .returned (.tuple #[]) ∧ ∃ d, Keep 0 l.length l.toArray d ∧ Srt d 0 l.length ∧ HoldsK encE 2 w' g 0 d ∧ W.grownBy w' (some g) := by
    refine hC.mono ?_
    rintro e w' ⟨rfl, d, k1, k2, S⟩
    exact ⟨rfl, d, k1, k2, sw_holds S R k1.size, sw_grownBy S⟩
  clear hC R hH hg h
  go_enter Try.func24, Try.ntmps24
  go_wp2_with (go_at_call 29; refine hC'.mono ?_; rintro e w1 ⟨rfl, hw⟩)
  go_end0
  exact ⟨rfl, hw⟩
#print axioms sort_own
end Go.Proofs.Qxb6608749a.Law
