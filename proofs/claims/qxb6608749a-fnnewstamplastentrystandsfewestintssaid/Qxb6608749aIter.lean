/-
  ZZNewStamp's iterator over the entries.
-/
import Derived.Test.Qxb6608749aEnt
import Derived.RangeFuncBox
import Derived.RangeFuncLeaves
import Derived.Shelf.Abstract
import Derived.WalkKit
import Derived.OwnWalkIn
import Derived.TacticsInMore
import Derived.LoopNIn
import Derived.LoopIn
import Derived.Sort.LoopGhostIn
import Derived.Maps.AppendAt
namespace Go.Proofs.Qxb6608749a.Law
open Go.RowKit Go.Shelf

attribute [local go_sem] Oper.semAt_some

/-- The entries lie below block n₀. -/
def EntB (n₀ : Nat) (W : World) (a : Option Addr) (l : List (Int × Int)) : Prop :=
  l = [] ∨ ∃ b o, a = some ⟨b, o, none⟩ ∧ b < n₀ ∧ ∀ j, j < l.length → W.cell? ⟨b, o + j * 2, none⟩ = some (.int .i64 (ent l j).1) ∧ W.cell? ⟨b, o + j * 2 + 1, none⟩ = some (.int .i64 (ent l j).2)
theorem EntB.below {n₀ : Nat} {A B : World} {a : Option Addr} {l : List (Int × Int)} (h : EntB n₀ A a l) (hb : Below n₀ A B) : EntB n₀ B a l := by
  rcases h with rfl | ⟨b, o, rfl, hlt, hc⟩
  · exact .inl rfl
  · refine .inr ⟨b, o, rfl, hlt, fun j hj => ?_⟩
    rw [hb.cell (p := ⟨b, o + j * 2, none⟩) hlt, hb.cell (p := ⟨b, o + j * 2 + 1, none⟩) hlt]
    exact hc j hj
theorem EntB.at {n₀ : Nat} {W : World} {a : Option Addr} {l : List (Int × Int)} (h : EntB n₀ W a l) (j : Nat) (hj : j < l.length) :
    ∃ b o, a = some ⟨b, o, none⟩ ∧ b < n₀ ∧ W.cell? ⟨b, o + j * 2, none⟩ = some (.int .i64 (ent l j).1) ∧ W.cell? ⟨b, o + j * 2 + 1, none⟩ = some (.int .i64 (ent l j).2) := by
  rcases h with rfl | ⟨b, o, rfl, hlt, hc⟩
  · simp at hj
  · exact ⟨b, o, rfl, hlt, hc j hj⟩
theorem Ent.toB {W : World} {a : Option Addr} {l : List (Int × Int)} (h : Ent W a l) : EntB W.heap.size W a l := h

theorem take_ent (l : List (Int × Int)) (k : Nat) (h : k < l.length) : l.take (k + 1) = l.take k ++ [ent l k] := by
  rw [ent_get l k h, List.take_succ_eq_append_getElem h]

set_option maxRecDepth 100000 in
set_option maxHeartbeats 1000000 in
theorem iter1_in (n : Nat) (hn : 1 ≤ n) (l Bn n₀ cap : Nat) (a : Option Addr) (xs : List (Int × Int)) (hlen : xs.length ≤ 1048576) (J Jx : List (Int × Int) → World → Prop) (W : World) (hJ : AbidesFrom W.heap.size J)
    (hY : ∀ pre x W, J pre W → pre.length < xs.length → YieldAt Fence.wide (n - 1) Try.prog l #[.int .i64 x.1, .int .i64 x.2] W fun e W' =>
      (e = .returned (.bool true) ∧ J (pre ++ [x]) W' ∧ Below n₀ W W') ∨ (e = .returned (.bool false) ∧ Jx (pre ++ [x]) W'))
    (hn₀ : n₀ ≤ W.heap.size) (hBn : W.cell? ⟨Bn, 0, none⟩ = some (.slice a xs.length cap)) (hL : EntB n₀ W a xs) (h0 : J [] W) :
    CallsIn Fence.wide n Try.prog 21 #[.func (.yield l) #[] #[], .pointer (some ⟨Bn, 0, none⟩)] W fun e W' => (∃ v, e = .returned v) ∧
      ((∃ ys, ys = xs ∧ J ys W') ∨ (∃ pre, pre <+: xs ∧ Jx pre W')) := by
  have HY : Aside _ := hY
  have HJ : Aside _ := hJ
  have HL : Aside (EntB n₀ W a xs) := hL
  have H0 : Aside (J [] W) := h0
  clear hY hJ hL h0
  refine callsIn_of_wp Try.func21 rfl trivial ?_ rfl
  simp only [Try.ntmps21, List.size_toArray, List.length_cons, List.length_nil, Nat.reduceAdd, Nat.reduceSub, Array.replicate_succ, Array.replicate_zero, List.push_toArray, List.append_toArray, List.nil_append, List.cons_append]
  gi_wp2
  gi_loopg [7] xs.length (fun kx s wr => ∃ k : Nat, s = .int .i64 k ∧ k ≤ xs.length ∧ xs.length - k ≤ kx ∧ Aside (EntB n₀ wr a xs) ∧ Aside (J (xs.take k) wr) ∧ n₀ ≤ wr.heap.size)
  case atStart => exact ⟨0, rfl, Nat.zero_le _, Nat.le_refl _, HL, H0, hn₀⟩
  case round =>
    obtain ⟨k, rfl, hk, hkx, HE, HK, hsz⟩ := hrel
    by_cases hlt : k < xs.length
    · obtain ⟨b, o, rfl, hb, hc0, hc1⟩ := HE.out.at k hlt
      have hltz : (k : Int) < (xs.length : Int) := by omega
      have HT : Hid (xs.take (k + 1) = xs.take k ++ [ent xs k]) := take_ent xs k hlt
      have HLT : Hid (k < xs.length) := hlt
      have HX : Aside (xs.take k ++ [ent xs k] <+: xs) := by show _ <+: _; rw [← HT.out]; exact List.take_prefix _ _
      have hlp : (xs.take k).length < xs.length := by rw [List.length_take]; omega
      generalize hx : ent xs k = x at hc0 hc1
      have HXE : Hid (ent xs k = x) := hx
      clear hx hlt
      obtain ⟨w2, hw2⟩ : ∃ w2, wr.alloc (.cells #[.int .i64 x.1, .int .i64 x.2] 29) = w2 := ⟨_, rfl⟩
      have hJ2 : J (xs.take k) w2 := by rw [← hw2]; exact HJ.out _ wr _ none HK.out (World.grownBy_alloc wr _ none) (fun r e => by cases e)
      have hB2 : Aside (Below n₀ wr w2) := by show Below _ _ _; rw [← hw2]; exact (Below.refl n₀ wr).alloc hsz _
      obtain ⟨fn, tmps, assign, body, hy, hR⟩ := HY.out (xs.take k) x w2 hJ2 hlp
      have HW2 : Hid (wr.alloc (.cells #[.int .i64 x.1, .int .i64 x.2] 29) = w2) := hw2
      rw [← hw2] at hy hR
      clear hw2 hJ2 hlp HK
      gi_wp2
      refine hR.mono ?_
      rintro e W3 (⟨rfl, hJ3, hk3⟩ | ⟨rfl, hJx3⟩)
      · have hB3 : Below n₀ wr W3 := hB2.out.trans (by rw [← HW2.out]; exact hk3)
        have HE3 : Aside (EntB n₀ W3 (some ⟨b, o, none⟩) xs) := HE.out.below hB3
        have hsz3 : n₀ ≤ W3.heap.size := Nat.le_trans hsz hB3.size
        have HJ3 : Aside (J (xs.take (k + 1)) W3) := by show J _ _; rw [HT.out, HXE.out]; exact hJ3
        clear hJ3 hk3 hB3 HE hsz hB2
        gi_wp2
        go_roundg (xs.length - (k + 1))
        case measure => have := HLT.out; omega
        case rel => exact ⟨k + 1, by go_num, HLT.out, Nat.le_refl _, HE3, HJ3, hsz3⟩
      · have HX3 : Aside (Jx (xs.take k ++ [x]) W3) := hJx3
        clear hJx3
        gi_wp2
        refine bodyPost_ret (results_none rfl _ _ _) rfl ?_
        exact ⟨⟨_, rfl⟩, .inr ⟨xs.take k ++ [x], by rw [← HXE.out]; exact HX.out, HX3.out⟩⟩
    · obtain rfl : k = xs.length := by omega
      rw [List.take_length] at HK
      gi_wp2
      go_end0
      exact ⟨⟨_, rfl⟩, .inl ⟨xs, rfl, HK.out⟩⟩

/-- The literal in ZZNewStamp yields the entries in their order. -/
theorem iter_stops (n : Nat) (hn : 1 ≤ n) (Bn n₀ cap : Nat) (a : Option Addr) (xs : List (Int × Int)) (hlen : xs.length ≤ 1048576) (w : World) (hBn : Bn < w.heap.size) (hn₀ : n₀ ≤ w.heap.size)
    (hc : w.cell? ⟨Bn, 0, none⟩ = some (.slice a xs.length cap)) (hL : EntB n₀ w a xs) :
    SeqStopsK Fence.wide n Try.prog 21 #[.pointer (some ⟨Bn, 0, none⟩)] (fun x : Int × Int => #[.int .i64 x.1, .int .i64 x.2]) (Below n₀) (fun ys => ys = xs) (fun pre => pre <+: xs) xs.length w := fun l J Jx W hW hJ _ hY h0 =>
  iter1_in n hn l Bn n₀ cap a xs hlen J Jx W hJ hY (Nat.le_trans hn₀ hW.size) ((hW.cell (p := ⟨Bn, 0, none⟩) hBn).trans hc) (hL.below (hW.mono hn₀)) h0
#print axioms iter_stops
end Go.Proofs.Qxb6608749a.Law
