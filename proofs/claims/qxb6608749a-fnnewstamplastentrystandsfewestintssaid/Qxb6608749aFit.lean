/-
  spread and fit: contracts.
-/
import Derived.Test.Qxb6608749aAt
import Derived.BigRegion
import Derived.RegionTactic
namespace Go.Proofs.Qxb6608749a.Law
open Go.RowKit

theorem look_lcTo {P : List (Int × Int)} (hU : Up P) (p : Int) : lcTo P p P.length = look P p := by
  have key : ∀ t, t ≤ P.length → (∃ j, j < t ∧ (ent P j).1 = p ∧ lcTo P p t = (ent P j).2) ∨ ((∀ j, j < t → (ent P j).1 ≠ p) ∧ lcTo P p t = 0) := by
    intro t
    induction t with
    | zero => exact fun _ => .inr ⟨fun j hj => absurd hj (by omega), rfl⟩
    | succ t ih =>
      intro ht
      unfold lcTo
      by_cases c : (ent P t).1 = p
      · exact .inl ⟨t, by omega, c, by rw [if_pos c]⟩
      · rw [if_neg c]
        rcases ih (by omega) with ⟨j, h1, h2, h3⟩ | ⟨h1, h2⟩
        · exact .inl ⟨j, by omega, h2, h3⟩
        · exact .inr ⟨fun j hj => by
            by_cases e : j = t
            · subst e; exact c
            · exact h1 j (by omega), h2⟩
  rcases key P.length (Nat.le_refl _) with ⟨j, h1, h2, h3⟩ | ⟨h1, h2⟩
  · rw [h3, look_at hU j h1 h2]
  · rw [h2, look_none h1]

theorem info3 : (Try.prog.info? 3).map (fun i => (i.zero, i.size, i.bytes)) = some (some (.int .i64 0), 1, 8) := by kernel_rfl
theorem run_mk (W : World) (n : Nat) (hn : n ≤ 4194304) :
    (Instr.makeSlice 25 (.int .i64 (n : Int)) (.int .i64 (n : Int))).run Try.prog W = .ok (.slice (some ⟨W.heap.size, 0, none⟩) n n) (W.alloc (.cells (madeCells #[.int .i64 0] n) 3)) := by
  obtain ⟨i, hi, hz0, hz1, hz2⟩ := info_parts info3
  have h := run_make (P := Try.prog) W 25 3 i _ Try.underlying25 hi hz0 .i64 .i64 n n (by omega) (Int.le_refl _) (by rw [hz2]; omega) (by omega)
  rw [hz1, Nat.mul_one, Int.toNat_natCast] at h
  exact h

/-- A row of n ints of the call's own. -/
def IRow (wr : World) (B n : Nat) (f : Nat → Int) : Prop :=
  B < wr.heap.size ∧ (∀ j, j < n → wr.cell? ⟨B, j, none⟩ = some (.int .i64 (f j))) ∧ ∀ j, j < n → wr.frozen? ⟨B, j, none⟩ = false
theorem IRow.set {wr : World} {B n : Nat} {f f' : Nat → Int} (h : IRow wr B n f) (m : Nat) (hm : m < n) (x : Int) (hx : f' m = x) (ho : ∀ j, j ≠ m → f' j = f j) :
    IRow (wr.setCell ⟨B, m, none⟩ (.int .i64 x)) B n f' := by
  obtain ⟨h1, h2, h3⟩ := h
  refine ⟨by simpa using h1, fun j hj => ?_, fun j hj => by rw [World.frozen?_setCell]; exact h3 j hj⟩
  by_cases hjm : j = m
  · subst hjm; rw [World.cell?_setCell_same _ _ _ (h2 j hj), hx]
  · rw [World.cell?_setCell_other _ _ _ _ (fun e => hjm (by injection e with _ e2 _; exact e2.symm)), ho j hjm]; exact h2 j hj
theorem IRow.drew {wr : World} {B n : Nat} {f : Nat → Int} (h : IRow wr B n f) : IRow wr.drew B n f := h
theorem IRow_made (W : World) (n : Nat) : IRow (W.alloc (.cells (madeCells #[.int .i64 0] n) 3)) W.heap.size n (fun _ => 0) := by
  refine ⟨by simp, fun j hj => ?_, fun j hj => by simp⟩
  have e : (madeCells #[Value.int .i64 0] n)[j]? = some (.int .i64 0) := by
    rw [← Array.getElem?_toList, toList_madeCells_one]
    simp [hj]
  rw [World.cell?_alloc_mark]
  exact e

set_option maxHeartbeats 1000000 in
set_option maxRecDepth 100000 in
theorem spread_any (g n cap N : Nat) (P : List (Int × Int)) (w : World) (hn : n = 2 * P.length) (h0 : 0 < P.length) (hl : P.length ≤ 1048576) (hU : Up P) (hpos : ∀ j, j < P.length → 0 ≤ (ent P j).1) (hg : g < w.heap.size) (hR : PairRow w g P)
    (hN : (N : Int) = (ent P (P.length - 1)).1 + 1) (hN2 : N ≤ 4194304) :
    Calls Try.prog 31 #[.slice (some ⟨g, 0, none⟩) n cap, .int .i64 (N : Int)] w fun e w' => ∃ g', e = .returned (.slice (some ⟨g', 0, none⟩) N N) ∧ w.heap.size ≤ g' ∧ g' < w'.heap.size ∧ (∀ j, j < N → w'.cell? ⟨g', j, none⟩ = some (.int .i64 (look P (j : Int)))) ∧ Below w.heap.size w w' := by
  obtain ⟨k, hk⟩ : ∃ k, P.length = k + 1 := ⟨P.length - 1, by omega⟩
  obtain ⟨hh0, hh1⟩ := hR k (by omega)
  rw [show P.length - 1 = k by omega] at hN
  have HR : Aside (PairRow w g P) := hR
  have HU : Aside (Up P) := hU
  have HP : Aside (∀ j, j < P.length → 0 ≤ (ent P j).1) := hpos
  have HG : Hid (g < w.heap.size) := hg
  have HK : Hid (P.length = k + 1) := hk
  have HN : Hid ((ent P k).1 = (N : Int) - 1) := show _ = _ by omega
  have HNn : Hid (n = 2 * P.length) := hn
  have en : (n : Int) - 2 = 2 * (k : Int) := by omega
  have e2 : (2 * (k : Int)).toNat = 2 * k := by omega
  have b0 : (0 : Int) < (n : Int) := by omega
  have b0n : 0 < n := by omega
  have bk : 2 * (k : Int) < (n : Int) := by omega
  have eH : (ent P k).1 + 1 = (N : Int) := by omega
  have bn : (n : Int) ≤ 2097152 := by omega
  have bN : (N : Int) ≤ 4194304 := by omega
  have hmk := fun W => run_mk W N hN2
  have hz := IRow_made w N
  generalize hX : madeCells #[Value.int .i64 0] N = X at hmk hz
  clear hX hR hU hpos hg hk hN hn hh1 h0 hl
  go_enter Try.func31, Try.ntmps31
  go_wp2
  clear hmk hh0 en e2 bk eH
  go_loopg [6] (k + 1) (fun kx j wr => ∃ t : Nat, t ≤ k + 1 ∧ k + 1 - t ≤ kx ∧ j = .int .i64 (2 * (t : Int)) ∧ Aside (Below w.heap.size w wr) ∧ Aside (IRow wr w.heap.size N (fun i => lcTo P (i : Int) t)))
  case atStart => exact ⟨0, Nat.zero_le _, Nat.le_refl _, rfl, (Below.refl _ w).alloc (Nat.le_refl _) _, hz⟩
  case round =>
    clear hz
    obtain ⟨t, ht, hkx, rfl, HB, HI⟩ := hrel
    by_cases hlt : t < k + 1
    · have hm0 := HP.out t (by rw [HK.out]; exact hlt)
      have hm1 := HU.out.lt (i := t) (j := k) (by omega) (by rw [HK.out]; omega)
      obtain ⟨m, hm⟩ := Int.eq_ofNat_of_zero_le hm0
      have hmN : m < N := by have := HN.out; omega
      obtain ⟨hc0, hc1⟩ := HR.out t (by rw [HK.out]; exact hlt)
      rw [hm] at hc0
      have hd0 := (HB.out.cell (p := ⟨g, 2 * t, none⟩) HG.out).trans hc0
      have hd1 := (HB.out.cell (p := ⟨g, 2 * t + 1, none⟩) HG.out).trans hc1
      have hcN := HI.out.2.1 m hmN
      have hfN := HI.out.2.2 m hmN
      have HM : Hid ((ent P t).1 = (m : Int)) := hm
      have Hm : Hid (m < N) := hmN
      have bt : 2 * (t : Int) < (n : Int) := by have := HNn.out; have := HK.out; omega
      have bt1 : 2 * (t : Int) + 1 < (n : Int) := by have := HNn.out; have := HK.out; omega
      have e1 : (2 * (t : Int)).toNat = 2 * t := by omega
      have e2 : (2 * (t : Int) + 1).toNat = 2 * t + 1 := by omega
      have bm : (m : Int) < (N : Int) := by omega
      clear hm hmN hm0 hm1 hc0 hc1
      generalize hy : (ent P t).2 = y at hd1
      have HY : Hid ((ent P t).2 = y) := hy
      clear hy
      go_wp2_with fail
      go_region
      go_wp2
      go_roundg (k + 1 - (t + 1))
      case measure => omega
      case rel =>
        refine ⟨t + 1, hlt, Nat.le_refl _, by go_num, (HB.out.setCell (Nat.le_refl _) _).drew, (HI.out.set m Hm.out y ?_ fun j hj => ?_).drew⟩
        · show lcTo P (m : Int) (t + 1) = y
          unfold lcTo
          rw [if_pos HM.out]
          exact HY.out
        · show lcTo P (j : Int) (t + 1) = lcTo P (j : Int) t
          rw [lcTo, if_neg (by rw [HM.out]; omega)]
    · have ht' : t = k + 1 := by omega
      have bt : ¬ 2 * (t : Int) < (n : Int) := by have := HNn.out; have := HK.out; omega
      have HT : Hid (t = k + 1) := ht'
      clear ht'
      go_wp2
      go_ret
      refine ⟨_, rfl, Nat.le_refl _, HI.out.1, fun j hj => ?_, HB.out⟩
      rw [HI.out.2.1 j hj]
      show some (Value.int .i64 (lcTo P (j : Int) t)) = _
      rw [HT.out, ← HK.out, look_lcTo HU.out]

theorem fit_nil (w : World) :
    Calls Try.prog 27 #[.slice none 0 0] w fun e w' => ∃ sv, e = .returned (.agg #[sv]) ∧ StampIs w' sv [] ∧ Below w.heap.size w w' := by
  go_enter Try.func27, Try.ntmps27
  go_wp2
  exact bodyPost_ret (v := .agg #[.slice none 0 0]) (by simp [results, Try.results27, go_sem]) rfl ⟨_, rfl, .inl ⟨rfl, rfl⟩, (Below.refl _ w).alloc (Nat.le_refl _) _⟩

set_option maxHeartbeats 1000000 in
set_option maxRecDepth 100000 in
theorem fit_some (g n cap : Nat) (P : List (Int × Int)) (w : World) (hn : n = 2 * P.length) (hnc : n ≤ cap) (h0 : 0 < P.length) (hl : P.length ≤ 1048576) (hU : Up P) (hpos : ∀ j, j < P.length → 0 ≤ (ent P j).1 ∧ (ent P j).1 < 9223372036854775807) (hg : g < w.heap.size) (hR : PairRow w g P) :
    Calls Try.prog 27 #[.slice (some ⟨g, 0, none⟩) n cap] w fun e w' => ∃ sv, e = .returned (.agg #[sv]) ∧ StampIs w' sv P ∧ Below w.heap.size w w' := by
  obtain ⟨k, hk⟩ : ∃ k, P.length = k + 1 := ⟨P.length - 1, by omega⟩
  have hh0 : ∀ o, (w.alloc o).cell? ⟨g, 2 * k, none⟩ = some (.int .i64 (ent P k).1) := fun o => (((Below.refl _ w).alloc (Nat.le_refl _) o).cell (p := ⟨g, 2 * k, none⟩) hg).trans (hR k (by omega)).1
  obtain ⟨hp0, hp1⟩ := hpos k (by omega)
  have hhigh : high P = (ent P k).1 := by unfold high; rw [if_neg (by omega), show P.length - 1 = k by omega]
  have HR : Aside (PairRow w g P) := hR
  have HG : Hid (g < w.heap.size) := hg
  have HK : Hid (P.length = k + 1) := hk
  have HNn : Hid (n = 2 * P.length) := hn
  have HH : Hid (high P = (ent P k).1) := hhigh
  have en : (n : Int) - 2 = 2 * (k : Int) := by omega
  have e2 : (2 * (k : Int)).toNat = 2 * k := by omega
  have b0 : ((n : Int) == 0) = false := beq_eq_false_iff_ne.2 (by omega)
  have bk : 2 * (k : Int) < (n : Int) := by omega
  have bn : (n : Int) ≤ 2097152 := by omega
  by_cases hsp : (n : Int) < (ent P k).1 + 1
  · clear hR hg hk hhigh hU hpos hl hn
    go_enter Try.func27, Try.ntmps27
    go_wp2
    refine bodyPost_ret (v := .agg #[.slice (some ⟨g, 0, none⟩) 0 n]) (by simp [results, Try.results27, go_sem]) rfl ?_
    have hb := (Below.refl _ w).alloc (Nat.le_refl _) (.cells #[.slice (some ⟨g, 0, none⟩) 0 n] 27)
    exact ⟨_, rfl, .inr (.inl ⟨g, h0, by rw [HH.out]; have := HNn.out; omega, by rw [HNn.out], Nat.lt_of_lt_of_le HG.out hb.size, HR.out.later hb HG.out⟩), hb⟩
  · obtain ⟨N, hN⟩ := Int.eq_ofNat_of_zero_le (show 0 ≤ (ent P k).1 + 1 by omega)
    have hb := (Below.refl _ w).alloc (Nat.le_refl _) (.cells #[.slice none 0 0] 27)
    have hC := spread_any g n cap N P _ hn h0 hl hU (fun j hj => (hpos j hj).1) (Nat.lt_of_lt_of_le hg hb.size) (hR.later hb hg) (by rw [show P.length - 1 = k by omega]; omega) (by omega)
    have HN : Hid ((ent P k).1 + 1 = (N : Int)) := hN
    have HB : Aside _ := hb
    have bN : 0 < N := by omega
    clear hR hg hk hhigh hU hpos hl hb hn
    go_enter Try.func27, Try.ntmps27
    go_wp2_with fail
    refine hC.mono ?_
    rintro e w1 ⟨g', rfl, hlo, hg', hcells, hb1⟩
    have hcR : w1.cell? ⟨w.heap.size, 0, none⟩ = some (.slice none 0 0) := (hb1.cell (p := ⟨w.heap.size, 0, none⟩) (by simp)).trans (by simp)
    have hfR : w1.frozen? ⟨w.heap.size, 0, none⟩ = false := (hb1.frozen (p := ⟨w.heap.size, 0, none⟩) (by simp)).trans (by simp)
    have HL : Hid (w.heap.size + 1 ≤ g') := show w.heap.size + 1 ≤ g' by simpa using hlo
    have HG' : Hid (g' < w1.heap.size) := hg'
    have HC : Aside (∀ j, j < N → w1.cell? ⟨g', j, none⟩ = some (.int .i64 (look P (j : Int)))) := hcells
    have HB1 : Aside (Below w.heap.size w w1) := HB.out.trans (hb1.mono (by simp))
    clear hC hlo hg' hcells hb1 HB
    go_wp2
    have hres : (w1.setCell ⟨w.heap.size, 0, none⟩ (.slice (some ⟨g', 0, none⟩) N N)).cell? ⟨w.heap.size, 0, none⟩ = some (.slice (some ⟨g', 0, none⟩) N N) := World.cell?_setCell_same _ _ _ hcR
    refine bodyPost_ret (v := .agg #[.slice (some ⟨g', 0, none⟩) N N]) (by simp [results, Try.results27, go_sem, hres]) rfl ?_
    refine ⟨_, rfl, .inr (.inr ⟨g', N, h0, by rw [HH.out]; have := HNn.out; omega, by rw [HH.out]; omega, bN, rfl, by simpa using HG'.out, fun j hj => ?_⟩), HB1.out.setCell (Nat.le_refl _) _⟩
    rw [World.cell?_setCell_other _ _ _ _ (fun e => by injection e with e1 _ _; have := HL.out; omega)]
    exact HC.out j hj
#print axioms fit_some
end Go.Proofs.Qxb6608749a.Law
