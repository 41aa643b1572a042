/-
  errors.Join of two errors; ZZchainLenJoin, ZZchainLenURLJoin; the law FnChainEndsAtMultiWrap.
-/
import Derived.Test.Qxb6605763aChainLen
import Derived.OwnWalk
namespace Go.Proofs.Qxb6605763a.Chain
open Go.RowKit

theorem encM (x : Nat × Nat) : enc x = .iface x.1 (.pointer (some ⟨x.2, 0, none⟩)) := rfl

set_option maxRecDepth 100000 in
set_option maxHeartbeats 1000000 in
theorem join_any (Bs c : Nat) (el : Nat → Nat × Nat) (w : World) (hBs : Bs < w.heap.size) (hc : ∀ j, j < 2 → w.cell? ⟨Bs, j, none⟩ = some (.iface (el j).1 (.pointer (some ⟨(el j).2, 0, none⟩)))) :
    Calls Try.prog 26 #[.slice (some ⟨Bs, 0, none⟩) 2 c] w fun e w' => (∃ b, e = .returned (.iface 53 (.pointer (some ⟨b, 0, none⟩))) ∧ w.heap.size ≤ b ∧ b < w'.heap.size) ∧ Below w.heap.size w w' := by
  obtain ⟨i0, hi, hz0, hz1, hz2⟩ := info_parts info36
  have hcH : Hid (∀ j, j < 2 → w.cell? ⟨Bs, j, none⟩ = some (.iface (el j).1 (.pointer (some ⟨(el j).2, 0, none⟩)))) := hc
  clear hc
  go_enter Try.func26, Try.ntmps26
  go_wp2
  go_loop [3, 11] (fun n i => ∃ m : Nat, m ≤ 2 ∧ i = .int .i64 m ∧ n = .int .i64 m) (fun _ i => 2 - (intOf i).toNat)
  case atStart => exact ⟨0, by omega, rfl, rfl⟩
  case round =>
    obtain ⟨m, hm, rfl, rfl⟩ := hrel
    by_cases hlt : m < 2
    · have h1 := hcH.out m hlt
      have hlt' : (m : Int) < 2 := by omega
      go_wp2
      go_round
      case rel => exact ⟨m + 1, by omega, by go_num, by go_num⟩
      case measure => simp [intOf]; omega
    · obtain rfl : m = 2 := by omega
      go_wp2_with (at_make; refine wpList_make_own _ rfl _ _ 33 rfl w.heap.size 36 i0 .nilIface 1 Try.underlying33 hi hz0 hz1 _ _ _ 2 rfl rfl (by omega) (by omega) (by unfold maxLen; omega) (by simp) ?_; intro w1 hown hgrow)
      have hB1 : Below w.heap.size w w1 := (Below.refl _ w).grown hgrow (Nat.le_refl _) (fun k e => by cases e)
      have hs1 : w.heap.size ≤ w1.heap.size := hB1.size
      have bO := Boxed.new w1 55 (.slice (some ⟨w.heap.size, 0, none⟩) 0 2)
      have hB2 : Below w.heap.size w (w1.alloc (.cells #[.slice (some ⟨w.heap.size, 0, none⟩) 0 2] 55)) := hB1.alloc hs1 _
      have hown2 := hown.alloc (.cells #[.slice (some ⟨w.heap.size, 0, none⟩) 0 2] 55)
      clear hgrow hown
      go_loopw [28] (fun i wr => ∃ (m : Nat) (v : Value) (xs : List Value), m ≤ 2 ∧ i = .int .i64 m ∧ Boxed wr w1.heap.size 55 v ∧ wr.ownsRow w.heap.size 36 1 v m xs ∧ Below w.heap.size w wr) (fun i _ => 2 - (intOf i).toNat)
      case atStart => exact ⟨0, _, [], by omega, rfl, bO, hown2, hB2⟩
      case round =>
        obtain ⟨m, v, xs, hm, rfl, hv, hrow, hB⟩ := hrel
        by_cases hlt : m < 2
        · have h1 := (hB.cell (p := ⟨Bs, m, none⟩) hBs).trans (hcH.out m hlt)
          have hlt' : (m : Int) < 2 := by omega
          have hc := hv.cell
          have hsz := hB.size
          generalize el m = x at h1
          go_wp2_with (at_builtin; refine wpList_append_own _ rfl _ _ 33 rfl w.heap.size 36 i0 .nilIface 1 16 Try.underlying33 hi hz0 hz1 hz2 rfl (by decide) _ _ _ rfl (hrow.alloc _) ⟨wr.heap.size, 0, none⟩ 1 1 [.iface x.1 (.pointer (some ⟨x.2, 0, none⟩))] rfl rfl (cell_one_new _ _ _) (by simp [Value.oneCell']) (by unfold maxLen; omega) (by omega) (by simp; omega) ?_; intro v' w2 hown' hgrow _; obtain ⟨g', cap', rfl⟩ := ownsRow_succ hown'; obtain ⟨hv1, hv2, hr2, hk2, hb2⟩ := hv.appended (by decide) hrow hB.size hs1 hown' hgrow; have hc1 := hv1.cell; have hf1 := hv1.frozen)
          go_roundw
          case rel => exact ⟨m + 1, _, _, by omega, by go_num, hv2, hr2, hB.trans hb2⟩
          case measure => simp [intOf]; omega
        · obtain rfl : m = 2 := by omega
          go_wp2
          go_ret
          exact ⟨⟨w1.heap.size, rfl, hs1, hv.lt⟩, hB⟩
end Go.Proofs.Qxb6605763a.Chain
