/-
  'chain(err)' as an iterator; slices.AppendSeq and slices.Collect over it.
-/
import Derived.Test.Qxb6605763aChain
import Derived.RangeFuncBox
import Derived.RangeFuncLeaves
import Derived.Shelf.Abstract
import Derived.WalkKit
import Derived.OwnWalkIn
import Derived.TacticsInMore
import Derived.LoopNIn
import Derived.LoopIn
import Derived.Sort.LoopGhostIn
import Derived.Maps.AppendAt
namespace Go.Proofs.Qxb6605763a.Chain
open Go.RowKit Go.Shelf

attribute [local go_sem] Oper.semAt_some

/-- From the error value v on, errors.Unwrap gives the errors xs, one behind the other, then nil. -/
def IsChain (n₀ : Nat) (W : World) : Value → List (Nat × Nat) → Prop
  | v, [] => v = .nilIface
  | v, x :: xs => v = enc x ∧ x.2 < n₀ ∧ ((x.1 = 50 ∧ xs = []) ∨ (x.1 = 53 ∧ xs = []) ∨ (x.1 = 41 ∧ ∃ q, W.cell? ⟨x.2, 2, none⟩ = some q ∧ IsChain n₀ W q xs))

theorem IsChain.below {n₀ : Nat} {A B : World} (h : Below n₀ A B) : ∀ {v : Value} {xs : List (Nat × Nat)}, IsChain n₀ A v xs → IsChain n₀ B v xs
  | _, [], hl => hl
  | _, x :: _, ⟨hv, hb, hr⟩ => ⟨hv, hb, by
    rcases hr with h1 | h1 | ⟨h1, q, hq, hr⟩
    · exact .inl h1
    · exact .inr (.inl h1)
    · exact .inr (.inr ⟨h1, q, (h.cell (p := ⟨x.2, 2, none⟩) hb).trans hq, IsChain.below h hr⟩)⟩

theorem IsChain.shape {n₀ : Nat} {W : World} {v : Value} {xs : List (Nat × Nat)} (h : IsChain n₀ W v xs) : v = .nilIface ∨ ∃ x, v = enc x := by
  cases xs with
  | nil => exact .inl h
  | cons x xs => exact .inr ⟨x, h.1⟩

/-- errors.Unwrap takes one step along the chain. -/
theorem unwrap_chain {n₀ : Nat} {W : World} {x : Nat × Nat} {xs : List (Nat × Nat)} (h : IsChain n₀ W (enc x) (x :: xs)) :
    Calls Try.prog 31 #[enc x] W fun e w' => (∃ q, e = .returned q ∧ IsChain n₀ W q xs) ∧ w' = W := by
  obtain ⟨_, hb, hr⟩ := h
  obtain ⟨t, b⟩ := x
  rcases hr with ⟨h1, rfl⟩ | ⟨h1, rfl⟩ | ⟨h1, q, hq, hr⟩
  · simp only at h1
    subst h1
    exact (unwrap_new b W).mono fun e w' ⟨he, hw⟩ => ⟨⟨_, he, rfl⟩, hw⟩
  · simp only at h1
    subst h1
    exact (unwrap_join b W).mono fun e w' ⟨he, hw⟩ => ⟨⟨_, he, rfl⟩, hw⟩
  · simp only at h1
    subst h1
    exact (unwrap_url b q W hq).mono fun e w' ⟨he, hw⟩ => ⟨⟨_, he, hr⟩, hw⟩

set_option maxRecDepth 100000 in
set_option maxHeartbeats 1000000 in
/-- The iterator itself, for every loop body that keeps what lay below n₀. -/
theorem chain1_in (n : Nat) (hn : 1 ≤ n) (l Bn n₀ : Nat) (v0 : Value) (xs : List (Nat × Nat)) (J Jx : List (Nat × Nat) → World → Prop)
    (hY : ∀ pre x W, J pre W → pre.length < xs.length → YieldAt Fence.wide (n - 1) Try.prog l #[enc x] W fun e W' =>
      (e = .returned (.bool true) ∧ J (pre ++ [x]) W' ∧ Below n₀ W W') ∨ (e = .returned (.bool false) ∧ Jx (pre ++ [x]) W'))
    (W : World) (hBn : W.cell? ⟨Bn, 0, none⟩ = some v0) (hL : IsChain n₀ W v0 xs) (h0 : J [] W) :
    CallsIn Fence.wide n Try.prog 30 #[.func (.yield l) #[] #[], .pointer (some ⟨Bn, 0, none⟩)] W fun e W' => (∃ v, e = .returned v) ∧
      ((∃ ys, ys = xs ∧ J ys W') ∨ (∃ pre, pre <+: xs ∧ Jx pre W')) := by
  refine callsIn_of_wp Try.func30 rfl trivial ?_ rfl
  simp only [Try.ntmps30, List.size_toArray, List.length_cons, List.length_nil, Nat.reduceAdd, Nat.reduceSub, Array.replicate_succ, Array.replicate_zero, List.push_toArray, List.append_toArray, List.nil_append, List.cons_append]
  gi_wp2
  gi_loopg [3] xs.length (fun k v wr => ∃ (pre rest : List (Nat × Nat)), k = rest.length ∧ xs = pre ++ rest ∧ IsChain n₀ wr v rest ∧ J pre wr)
  case atStart =>
    exact ⟨[], xs, rfl, rfl, hL, h0⟩
  case round =>
    obtain ⟨pre, rest, hk, hx, hl, hJs⟩ := hrel
    have hx' : Hid (xs = pre ++ rest) := hx
    clear hx
    have hk' : Hid (gk = rest.length) := hk
    clear hk
    cases rest with
    | nil =>
      have e : u3 = .nilIface := hl
      subst e
      gi_wp2
      go_end0
      exact ⟨⟨_, rfl⟩, .inl ⟨pre, by rw [hx'.out]; simp, hJs⟩⟩
    | cons x rest =>
      have e : u3 = enc x := hl.1
      subst e
      obtain ⟨fn, tmps, assign, body, hy, hR⟩ := hY pre x wr hJs (by rw [hx'.out]; simp)
      unfold enc at hy
      show (_ : Prop)
      unfold enc
      gi_wp2
      refine hR.mono ?_
      rintro e W3 (⟨rfl, hJ3, hk3⟩ | ⟨rfl, hJx3⟩)
      · have hU : Calls Try.prog 31 #[.iface x.1 (.pointer (some ⟨x.2, 0, none⟩))] W3 fun e w' => (∃ q, e = .returned q ∧ IsChain n₀ W3 q rest) ∧ w' = W3 := unwrap_chain (hl.below hk3)
        gi_wp2
        refine ⟨trivial, ?_⟩
        refine (callsIn_wide.2 hU).mono ?_
        rintro e w' ⟨⟨q, rfl, hq⟩, rfl⟩
        gi_wp2
        go_roundg rest.length
        case measure => have := hk'.out; simp at this; omega
        case rel => exact ⟨pre ++ [x], rest, rfl, by rw [hx'.out]; simp, hq, hJ3⟩
      · gi_wp2
        refine bodyPost_ret (results_none rfl _ _ _) rfl ?_
        exact ⟨⟨_, rfl⟩, .inr ⟨pre ++ [x], ⟨rest, by rw [hx'.out]; simp⟩, hJx3⟩⟩

/-- 'chain(err)' hands back a value that yields the chain's errors in their order. -/
theorem chain_stops (n : Nat) (hn : 1 ≤ n) (Bn n₀ : Nat) (v0 : Value) (xs : List (Nat × Nat)) (w : World) (hBn : Bn < w.heap.size) (hn₀ : n₀ ≤ w.heap.size)
    (hc : w.cell? ⟨Bn, 0, none⟩ = some v0) (hL : IsChain n₀ w v0 xs) :
    SeqStopsK Fence.wide n Try.prog 30 #[.pointer (some ⟨Bn, 0, none⟩)] (fun x : Nat × Nat => #[enc x]) (Below n₀) (fun ys => ys = xs) (fun pre => pre <+: xs) xs.length w := fun l J Jx W hW _ _ hY h0 =>
  chain1_in n hn l Bn n₀ v0 xs J Jx hY W ((hW.cell (p := ⟨Bn, 0, none⟩) hBn).trans hc) (hL.below (hW.mono hn₀)) h0

theorem info36 : (Try.prog.info? 36).map (fun i => (i.zero, i.size, i.bytes)) = some (some .nilIface, 1, 16) := by kernel_rfl

set_option maxRecDepth 100000 in
set_option maxHeartbeats 2000000 in
/-- slices.AppendSeq(nil, chain(err)): as many entries as the chain has. -/
theorem appendSeq_any (Bn n₀ : Nat) (v0 : Value) (xs : List (Nat × Nat)) (w : World) (hlen : xs.length ≤ 1000) (hBn : Bn < w.heap.size) (hn₀ : n₀ ≤ w.heap.size)
    (hc : w.cell? ⟨Bn, 0, none⟩ = some v0) (hL : IsChain n₀ w v0 xs) :
    Calls Try.prog 29 #[.slice none 0 0, .func (.func 30) #[] #[.pointer (some ⟨Bn, 0, none⟩)]] w fun e W' => ∃ v, e = .returned v ∧ W'.ownsRow w.heap.size 36 1 v xs.length (xs.map enc) ∧ Below w.heap.size w W' := by
  refine (callsIn_wide (n := 3)).1 ?_
  obtain ⟨i0, hi, hz0, hz1, hz2⟩ := info_parts info36
  refine callsIn_of_wp_marks Try.func29 rfl trivial ?_ rfl
  simp only [Try.ntmps29, List.size_toArray, List.length_cons, List.length_nil, Nat.reduceAdd, Nat.reduceSub, Array.replicate_succ, Array.replicate_zero, List.push_toArray, List.append_toArray, List.nil_append, List.cons_append]
  gi_wp2
  have bO := Boxed.new w 33 (.slice none 0 0)
  have hB0 : Below w.heap.size w (w.alloc (.cells #[.slice none 0 0] 33)) := (Below.refl _ w).alloc (Nat.le_refl _) _
  refine wpIn_rangeFunc_ownG rfl (by omega) (gf := 30) (lb := #[.pointer (some ⟨Bn, 0, none⟩)]) rfl trivial (enters_of Try.func30 (by kernel_rfl) rfl)
    (chain_stops (3 - 1) (by omega) Bn n₀ v0 xs _ (by simp; omega) (by simp; omega) ((hB0.cell (p := ⟨Bn, 0, none⟩) hBn).trans hc) (hL.below (hB0.mono hn₀))) belowK_t (belowK_b (by simp; omega)) (Below.refl _ _) (fun _ => rfl)
    (fun pre W => (∃ v, Boxed W w.heap.size 33 v ∧ W.ownsRow w.heap.size 36 1 v pre.length (pre.map enc) ∧ (v = .slice none 0 0 ↔ pre = [])) ∧ Below w.heap.size w W)
    (fun _ _ _ => False)
    (OwnFrom.and (Own.from (holdsRow_own w.heap.size w.heap.size 33 36 1 (fun pre => pre.length) (fun pre => pre.map enc) (fun pre v => v = .slice none 0 0 ↔ pre = [])) _) (ownFrom_below (Nat.le_refl _) (by simp)))
    (fun _ _ _ _ _ hs _ _ => hs)
    ⟨⟨_, bO, World.ownsRow_nil _ _ _ _, by simp⟩, hB0⟩
    (fun x => { tmps := #[.slice none 0 0, .func (.func 30) #[] #[.pointer (some ⟨Bn, 0, none⟩)], .pointer (some ⟨w.heap.size, 0, none⟩), undef, .slice none 0 0, enc x, .func (.func 30) #[] #[.pointer (some ⟨Bn, 0, none⟩)], enc x, undef, undef, undef, undef, undef], defers := [] }) ?assign ?body ?done ?stop
  case assign =>
    intro l x W K hK
    unfold enc at *
    gi_wp2
    exact hK
  case body =>
    rintro l pre x W ⟨⟨v, hv, hrow, hnil⟩, hB⟩ hlt
    have hc := hv.cell
    have h1c : (enc x).oneCell' = true := rfl
    unfold enc
    gi_wp2_with (gi_at_builtin; refine wpListIn_append_own _ rfl _ _ 33 rfl w.heap.size 36 i0 .nilIface 1 16 Try.underlying33 hi hz0 hz1 hz2 rfl (by decide) _ _ _ rfl (hrow.alloc _) ⟨W.heap.size, 0, none⟩ 1 1 [enc x] rfl rfl (cell_one_new _ _ _) (by simp [h1c]) (by unfold maxLen; omega) (by omega) (by have := hB.size; simp; omega) ?_; intro v' w1 hown' hgrow _; obtain ⟨g', cap', rfl⟩ := ownsRow_succ hown'; obtain ⟨hv1, hv2, hr2, hk2, hb2⟩ := hv.appended (by decide) hrow hB.size (Nat.le_refl _) hown' hgrow; have hc1 := hv1.cell; have hf1 := hv1.frozen)
    exact ⟨hk2.from _, hb2.mono hn₀, ⟨_, hv2, by unfold enc at hr2; simpa using hr2, by simp⟩, hB.trans hb2⟩
  case done =>
    rintro D ys W hD rfl ⟨⟨v, hv, hrow, hnil⟩, hB⟩ hK
    have hc := hv.cell
    gi_wp2
    refine ⟨by simp, .inl ⟨_, _, rfl, run_takeDeferred hK, ?_⟩⟩
    exact ⟨_, results_tmp rfl _ _ _, v, rfl, ownsRow_putObj hrow _ hK rfl, hB.trans (belowK_b (w := w) (Nat.le_refl _) W D _ _ (by simp at hD; omega) hK rfl rfl)⟩
  case stop =>
    rintro D c pre W _ _ h _
    exact h.elim

/-- slices.Collect(chain(err)). -/
theorem collect_any (Bn n₀ : Nat) (v0 : Value) (xs : List (Nat × Nat)) (w : World) (hlen : xs.length ≤ 1000) (hBn : Bn < w.heap.size) (hn₀ : n₀ ≤ w.heap.size)
    (hc : w.cell? ⟨Bn, 0, none⟩ = some v0) (hL : IsChain n₀ w v0 xs) :
    Calls Try.prog 23 #[.func (.func 30) #[] #[.pointer (some ⟨Bn, 0, none⟩)]] w fun e W' => (∃ a cap, e = .returned (.slice a xs.length cap)) ∧ Below w.heap.size w W' := by
  have hC : Calls Try.prog 29 #[.slice none 0 0, .func (.func 30) #[] #[.pointer (some ⟨Bn, 0, none⟩)]] w fun e W' => (∃ a cap, e = .returned (.slice a xs.length cap)) ∧ Below w.heap.size w W' := by
    refine (appendSeq_any Bn n₀ v0 xs w hlen hBn hn₀ hc hL).mono ?_
    rintro e w' ⟨v, rfl, ⟨_, hrow⟩, hb⟩
    rcases hrow with ⟨rfl, h0⟩ | ⟨g, cap, _, rfl, _⟩
    · exact ⟨⟨none, 0, by rw [h0]⟩, hb⟩
    · exact ⟨⟨_, cap, rfl⟩, hb⟩
  go_enter Try.func23, Try.ntmps23
  go_wp2_with (go_at_call 29; refine hC.mono ?_; rintro e w' ⟨⟨a, cap, rfl⟩, hb⟩)
  go_ret
  exact ⟨⟨a, cap, rfl⟩, hb⟩
#print axioms collect_any
end Go.Proofs.Qxb6605763a.Chain
