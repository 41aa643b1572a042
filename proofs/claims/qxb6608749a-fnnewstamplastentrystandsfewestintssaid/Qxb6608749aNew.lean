/-
  trace.NewStamp.
-/
import Derived.Test.Qxb6608749aNewA
import Derived.BigQuiet
namespace Go.Proofs.Qxb6608749a.Law
open Go.RowKit Go.Shelf Go.Sort Stable

attribute [local go_sem] Oper.semAt_some

theorem info29 : (Try.prog.info? 29).map (fun i => (i.zero, i.size, i.bytes)) = some (some (.agg #[.int .i64 0, .int .i64 0]), 2, 16) := by kernel_rfl

set_option maxRecDepth 100000 in
set_option maxHeartbeats 2000000 in
theorem new_any (Bn n₀ cap : Nat) (a : Option Addr) (l : List (Int × Int)) (w : World) (hlen : l.length ≤ 5000) (hBn : Bn < w.heap.size) (hn₀ : n₀ ≤ w.heap.size)
    (hc : w.cell? ⟨Bn, 0, none⟩ = some (.slice a l.length cap)) (hL : EntB n₀ w a l) (hd : dom l = true) (hx : ∀ x ∈ l, x.1 ≤ 9223372036854775807) :
    Calls Try.prog 20 #[.func (.func 21) #[] #[.pointer (some ⟨Bn, 0, none⟩)]] w fun e W' => ∃ sv P, e = .returned (.agg #[sv]) ∧ StampIs W' sv P ∧ PairsOf l P ∧ Below w.heap.size w W' := by
  refine (callsIn_wide (n := 3)).1 ?_
  obtain ⟨i0, hi, hz0, hz1, hz2⟩ := info_parts info29
  refine callsIn_of_wp_marks Try.func20 rfl trivial ?_ rfl
  simp only [Try.ntmps20, List.size_toArray, List.length_cons, List.length_nil, Nat.reduceAdd, Nat.reduceSub, Array.replicate_succ, Array.replicate_zero, List.push_toArray, List.append_toArray, List.nil_append, List.cons_append]
  gi_wp2
  have bR := Boxed.new w 27 (.slice none 0 0)
  have hBR : Below w.heap.size w (w.alloc (.cells #[.slice none 0 0] 27)) := (Below.refl _ w).alloc (Nat.le_refl _) _
  have hsR : (w.alloc (.cells #[.slice none 0 0] 27)).heap.size = w.heap.size + 1 := by simp
  generalize w.alloc (.cells #[.slice none 0 0] 27) = w1 at *
  have bO : Boxed (w1.alloc (.cells #[.slice none 0 0] 22)) (w.heap.size + 1) 22 (.slice none 0 0) := by rw [← hsR]; exact Boxed.new w1 22 _
  have hB0 : Below (w.heap.size + 1) w1 (w1.alloc (.cells #[.slice none 0 0] 22)) := (Below.refl _ w1).alloc (by omega) _
  have hBw : Below w.heap.size w (w1.alloc (.cells #[.slice none 0 0] 22)) := hBR.trans (hB0.mono (by omega))
  have hs2 : (w1.alloc (.cells #[.slice none 0 0] 22)).heap.size = w.heap.size + 2 := by simp [hsR]
  generalize hg2 : w1.alloc (.cells #[.slice none 0 0] 22) = w2 at *
  refine wpIn_rangeFunc_ownG rfl (by omega) (gf := 21) (lb := #[.pointer (some ⟨Bn, 0, none⟩)]) rfl trivial (enters_of Try.func21 (by kernel_rfl) rfl)
    (iter_stops (3 - 1) (by omega) Bn n₀ cap a l (by omega) w2 (by omega) (by omega) ((hBw.cell (p := ⟨Bn, 0, none⟩) hBn).trans hc) (hL.below (hBw.mono hn₀))) belowK_t (belowK_b (by omega)) (Below.refl _ _) (fun _ => rfl)
    (fun pre W => (∃ v, Boxed W (w.heap.size + 1) 22 v ∧ W.ownsRow (w.heap.size + 1) 29 2 v pre.length (flat pre) ∧ True) ∧ Below (w.heap.size + 1) w1 W)
    (fun _ _ _ => False)
    (OwnFrom.and (Own.from (holdsRow_own (w.heap.size + 1) (w.heap.size + 1) 22 29 2 (fun pre => pre.length) (fun pre => flat pre) (fun _ _ => True)) _) (ownFrom_below (by omega) (by omega)))
    (fun _ _ _ _ _ hs _ _ => hs)
    ⟨⟨_, bO, World.ownsRow_nil _ _ _ _, trivial⟩, hB0⟩
    (fun x => { tmps := #[Value.func (.func 21) #[] #[.pointer (some ⟨Bn, 0, none⟩)], undef, .pointer (some ⟨w.heap.size, 0, none⟩), .pointer (some ⟨w.heap.size + 1, 0, none⟩), .int .i64 x.1, .int .i64 x.2, undef, undef, undef, Value.func (.func 21) #[] #[.pointer (some ⟨Bn, 0, none⟩)], .int .i64 x.1, .int .i64 x.2, undef, undef, undef, undef, undef, undef, undef, undef, undef, undef, undef, undef, undef, undef, undef, undef, undef, undef, undef, undef, undef, undef, undef, undef, undef, undef, undef, undef, undef, undef, undef, undef, undef, undef, undef, undef, undef, undef, undef, undef, undef, undef, undef, undef, undef, undef], defers := [] }) ?assign ?body ?done ?stop
  case assign =>
    intro l x W K hK
    gi_wp2
    exact hK
  case body =>
    rintro l pre x W ⟨⟨v, hv, hrow, _⟩, hB⟩ hlt
    have hc := hv.cell
    gi_wp2_with (gi_at_builtin; refine wpListIn_append_own _ rfl _ _ 22 rfl (w.heap.size + 1) 29 i0 (.agg #[.int .i64 0, .int .i64 0]) 2 16 Try.underlying22 hi hz0 hz1 hz2 rfl (by decide) _ _ _ rfl (hrow.alloc _) ⟨W.heap.size, 0, none⟩ 1 1 [.int .i64 x.1, .int .i64 x.2] rfl rfl (cell_two_new _ _ _ _) (by simp [Value.oneCell']) (by unfold maxLen; omega) (by omega) (by have := hB.size; simp; omega) ?_; intro v' w1 hown' hgrow _; obtain ⟨g', cap', rfl⟩ := ownsRow_succ hown'; obtain ⟨hv1, hv2, hr2, hk2, hb2⟩ := hv.appended (by decide) hrow (by have := hB.size; omega) (Nat.le_refl _) hown' hgrow; have hc1 := hv1.cell; have hf1 := hv1.frozen)
    exact ⟨hk2.from _, hb2.mono (by omega), ⟨_, hv2, by rw [flat_snoc]; simpa using hr2, trivial⟩, hB.trans hb2⟩
  case done =>
    rintro D ys W hD rfl ⟨⟨v, hv, hrow, htriv⟩, hB⟩ hK
    rename_i K Q' hT
    refine hT _ _ (wpIn_wide.2 ?_)
    clear hT
    obtain ⟨⟨a2, cap2, hv2⟩, hS⟩ := sort_both (w.heap.size + 1) v ys W (by omega) hrow
    have hDW : D < W.heap.size := (Array.getElem?_eq_some_iff.1 hK).1
    have hDR : some D ≠ v.ownBlock := by
      rcases hrow.2 with ⟨rfl, _⟩ | ⟨g, cap, cur, rfl, _, hgb, _⟩
      · simp [Value.ownBlock]
      · intro e'
        obtain rfl : D = g := by simpa [Value.ownBlock] using e'
        rw [hK] at hgb; cases hgb
    have hBR2 : ∀ k, v.ownBlock = some k → w.heap.size + 1 ≤ k := by
      intro k e
      rcases hrow.2 with ⟨rfl, _⟩ | ⟨g, cap, cur, rfl, hb, _, _⟩
      · simp [Value.ownBlock] at e
      · obtain rfl : g = k := by simpa [Value.ownBlock] using e
        exact hb
    have hYr := hv.not_row (by decide) hrow
    have hBWsz := hB.size
    have hcY := hv.cell
    subst hv2
    have hS' : Calls Try.prog 24 #[.slice a2 ys.length cap2, .func (.func 25) #[] #[]] W fun e W1 => e = .returned (.tuple #[]) ∧ W1.cell? ⟨w.heap.size + 1, 0, none⟩ = some (.slice a2 ys.length cap2) ∧
        Aside (∃ d : Array (Int × Int), W1.heap[D]? = some (.deferred (some [])) ∧ Below (w.heap.size + 1) w1 W1 ∧ EntB W1.heap.size W1 a2 d.toList ∧ d.size = ys.length ∧ PairsOf ys (pr d ys.length ys.length)) := by
      refine hS.mono ?_
      rintro e W1 ⟨rfl, d, hkeep, hsrt, hdsz, hE, hG⟩
      exact ⟨rfl, (hv.kept hG hYr).cell, d, (hG.block D hDW hDR).trans hK, hB.grown hG (by omega) hBR2, hE a2 cap2 rfl, hdsz, pairs_of_sorted hkeep hsrt⟩
    have HBR : Aside (Boxed w1 w.heap.size 27 (.slice none 0 0)) := bR
    have HBw1 : Aside (Below w.heap.size w w1) := hBR
    have HsR : Hid (w1.heap.size = w.heap.size + 1) := hsR
    have HL5 : Hid (ys.length ≤ 5000) := hlen
    have HDM : Aside (dom ys = true) := hd
    have DX : Aside (∀ x ∈ ys, x.1 ≤ 9223372036854775807) := hx
    have HDD : Hid (w.heap.size + 2 ≤ D) := show w.heap.size + 2 ≤ D by omega
    clear hx hS hYr hBR2 hDR hDW hv hrow htriv hB hK hD hBWsz hlen hc hL hd hs2 hBw hB0 bO hg2 hsR hBR bR hBn hn₀ hi hz0 hz1 hz2
    go_wp2_with (go_at_call 24; refine hS'.mono ?_; rintro e W1 ⟨rfl, hcY1, HALL⟩)
    obtain ⟨d, hD1, hB1, hE1, hdsz, hP⟩ := HALL.out
    have HD1 : Aside (W1.heap[D]? = some (.deferred (some []))) := hD1
    have HB1 : Aside (Below (w.heap.size + 1) w1 W1) := hB1
    have HE1 : Aside (EntB W1.heap.size W1 a2 d.toList) := hE1
    have HP : Aside (PairsOf ys (pr d ys.length ys.length)) := hP
    have Hdsz : Hid (d.size = ys.length) := hdsz
    have HY1 : Hid (w.heap.size + 1 < W1.heap.size) := World.block_lt_of_cell? _ _ hcY1
    clear hD1 hB1 hE1 hP hdsz HALL hS' hcY
    generalize hn : ys.length = n at *
    have Hn : Hid (ys.length = n) := hn
    clear hn
    go_loopg [22, 6] n (fun kx s v wr => ∃ i : Nat, s = .int .i64 i ∧ i ≤ n ∧ n - i ≤ kx ∧ Aside (Below W1.heap.size W1 wr) ∧ Aside (wr.ownsRow W1.heap.size 3 1 v ((pr d n i).length * 2) (flat (pr d n i))))
    case atStart => exact ⟨0, rfl, Nat.zero_le _, Nat.le_refl _, Below.refl _ _, World.ownsRow_nil _ _ _ _⟩
    case round =>
      obtain ⟨i, rfl, hin, hkx, HB, HO⟩ := hrel
      have hcYr : ∀ o, (wr.alloc o).cell? ⟨w.heap.size + 1, 0, none⟩ = some (.slice a2 n cap2) := fun o => (((HB.out.alloc HB.out.size o)).cell (p := ⟨w.heap.size + 1, 0, none⟩) HY1.out).trans hcY1
      by_cases hlt : i < n
      · have hid : i < d.toList.length := by rw [Array.length_toList]; have := Hdsz.out; omega
        obtain ⟨b, o, rfl, hb, hc0, hc1⟩ := HE1.out.at i hid
        have hcw0 := (HB.out.cell (p := ⟨b, o + i * 2, none⟩) hb).trans hc0
        have hcw1 := (HB.out.cell (p := ⟨b, o + i * 2 + 1, none⟩) hb).trans hc1
        rw [ent_arr d i (by simpa using hid)] at hcw0 hcw1
        have HLT : Hid (i < n) := hlt
        have bn : (n : Int) ≤ 5000 := by have := HL5.out; omega
        have hltz : (i : Int) < (n : Int) := by omega
        clear hc0 hc1 hid hlt hin
        obtain ⟨x1, x2, hx⟩ : ∃ x1 x2, d[i]! = (x1, x2) := ⟨_, _, rfl⟩
        rw [hx] at hcw0 hcw1
        simp only at hcw0 hcw1
        by_cases hz : x2 = 0
        · have HPR : Hid (pr d n (i + 1) = pr d n i) := by
            show pr d n (i + 1) = pr d n i
            rw [pr, if_neg (fun h => (kp_true h).1 (by rw [hx]; exact hz))]
          clear hx
          subst hz
          go_wp2_with fail
          go_quiet (fail)
          go_wp2
          go_roundg (n - (i + 1))
          case measure => have := HLT.out; omega
          case rel => exact ⟨i + 1, by go_num, HLT.out, Nat.le_refl _, below_drewN (HB.out.alloc HB.out.size _) _, by show World.ownsRow _ _ _ _ _ _ _; rw [HPR.out]; exact own_drewN (HO.out.alloc _) _⟩
        · have hzb : (x2 != 0) = true := bne_iff_ne.2 hz
          have HZ : Hid (d[i]!.2 ≠ 0) := show d[i]!.2 ≠ 0 by rw [hx]; exact hz
          obtain ⟨j0, hj, hy0, hy1, hy2⟩ := info_parts info3
          by_cases hlast : i + 1 = n
          · have HPR : Hid (pr d n (i + 1) = pr d n i ++ [(x1, x2)]) := by
              show pr d n (i + 1) = _
              rw [pr, if_pos (kp_of HZ.out (.inl hlast)), hx]
            have hlb : ((i : Int) + 1 == (n : Int)) = true := beq_iff_eq.2 (by omega)
            clear hx hz hlast
            go_wp2_with fail
            go_quiet (fail)
            have HBA : Aside (Below W1.heap.size W1 ((wr.alloc (.cells #[.int .i64 x1, .int .i64 x2] 29)).drewN nq)) := below_drewN (HB.out.alloc HB.out.size _) _
            have hOA : ((wr.alloc (.cells #[.int .i64 x1, .int .i64 x2] 29)).drewN nq).ownsRow W1.heap.size 3 1 u6 ((pr d n i).length * 2) (flat (pr d n i)) := own_drewN (HO.out.alloc _) _
            have hcA0 : ((wr.alloc (.cells #[.int .i64 x1, .int .i64 x2] 29)).drewN nq).cell? ⟨wr.heap.size, 0, none⟩ = some (.int .i64 x1) := by simp
            have hcA1 : ((wr.alloc (.cells #[.int .i64 x1, .int .i64 x2] 29)).drewN nq).cell? ⟨wr.heap.size, 1, none⟩ = some (.int .i64 x2) := by simp
            generalize (wr.alloc (.cells #[.int .i64 x1, .int .i64 x2] 29)).drewN nq = wA at *
            have hpl := pr_length d n i
            go_wp2_with (at_builtin; refine wpList_append_own _ rfl _ _ 25 rfl W1.heap.size 3 j0 (.int .i64 0) 1 8 Try.underlying25 hj hy0 hy1 hy2 rfl (by decide) _ _ _ rfl (hOA.alloc _) ⟨wA.heap.size, 0, none⟩ 2 2 [.int .i64 x1, .int .i64 x2] rfl rfl (cell_two_new _ _ _ _) (by simp [Value.oneCell']) (by have := HLT.out; unfold maxLen; omega) (by have := HLT.out; omega) (by have := HBA.out.size; simp; omega) ?_; intro v' w3 hown' hgrow _)
            go_roundg (n - (i + 1))
            case measure => have := HLT.out; omega
            case rel =>
              refine ⟨i + 1, by go_num, HLT.out, Nat.le_refl _, ?_, ?_⟩
              · refine (HBA.out.alloc HBA.out.size _).grown hgrow (by have := HBA.out.size; simp; omega) (own_base_le hOA)
              · show World.ownsRow _ _ _ _ _ _ _
                rw [HPR.out, flat_snoc, List.length_append, Nat.add_mul]
                exact hown'
          · have hlt2 : i + 1 < d.toList.length := by rw [Array.length_toList]; have := Hdsz.out; have := HLT.out; omega
            obtain ⟨b', o', e', hb', hc2, _⟩ := HE1.out.at (i + 1) hlt2
            injection e' with e'
            injection e' with e1 e2 e3
            subst e1 e2
            have hcw2 : ∀ ob, (wr.alloc ob).cell? ⟨b, o + (i + 1) * 2, none⟩ = some (.int .i64 d[i + 1]!.1) := fun ob => by
              rw [← ent_arr d (i + 1) (by simpa using hlt2)]
              exact ((HB.out.alloc HB.out.size ob).cell (p := ⟨b, o + (i + 1) * 2, none⟩) hb).trans hc2
            have hlb : ((i : Int) + 1 == (n : Int)) = false := beq_eq_false_iff_ne.2 (by omega)
            have hlz : (i : Int) + 1 < (n : Int) := by have := HLT.out; omega
            have et : ((i : Int) + 1).toNat = i + 1 := by omega
            obtain ⟨y, hy⟩ : ∃ y, d[i + 1]!.1 = y := ⟨_, rfl⟩
            rw [hy] at hcw2
            by_cases hyx : y = x1
            · have HPR : Hid (pr d n (i + 1) = pr d n i) := by
                show pr d n (i + 1) = pr d n i
                rw [pr, if_neg (fun h => ?_)]
                rcases (kp_true h).2 with h2 | h2
                · exact hlast h2
                · exact h2 (by rw [hy, hx]; exact hyx)
              subst hyx
              clear hx hz hlast hy hc2 hlt2 hb'
              go_wp2_with fail
              go_quiet (fail)
              go_wp2
              go_roundg (n - (i + 1))
              case measure => have := HLT.out; omega
              case rel => exact ⟨i + 1, by go_num, HLT.out, Nat.le_refl _, below_drewN (HB.out.alloc HB.out.size _) _, by show World.ownsRow _ _ _ _ _ _ _; rw [HPR.out]; exact own_drewN (HO.out.alloc _) _⟩
            · have HPR : Hid (pr d n (i + 1) = pr d n i ++ [(x1, x2)]) := by
                show pr d n (i + 1) = _
                rw [pr, if_pos (kp_of HZ.out (.inr (by rw [hy, hx]; exact hyx))), hx]
              have hyb : (y != x1) = true := bne_iff_ne.2 hyx
              clear hx hz hlast hy hc2 hlt2 hb' hyx
              go_wp2_with fail
              go_quiet (fail)
              have HBA : Aside (Below W1.heap.size W1 ((wr.alloc (.cells #[.int .i64 x1, .int .i64 x2] 29)).drewN nq)) := below_drewN (HB.out.alloc HB.out.size _) _
              have hOA : ((wr.alloc (.cells #[.int .i64 x1, .int .i64 x2] 29)).drewN nq).ownsRow W1.heap.size 3 1 u6 ((pr d n i).length * 2) (flat (pr d n i)) := own_drewN (HO.out.alloc _) _
              have hcA0 : ((wr.alloc (.cells #[.int .i64 x1, .int .i64 x2] 29)).drewN nq).cell? ⟨wr.heap.size, 0, none⟩ = some (.int .i64 x1) := by simp
              have hcA1 : ((wr.alloc (.cells #[.int .i64 x1, .int .i64 x2] 29)).drewN nq).cell? ⟨wr.heap.size, 1, none⟩ = some (.int .i64 x2) := by simp
              generalize (wr.alloc (.cells #[.int .i64 x1, .int .i64 x2] 29)).drewN nq = wA at *
              have hpl := pr_length d n i
              go_wp2_with (at_builtin; refine wpList_append_own _ rfl _ _ 25 rfl W1.heap.size 3 j0 (.int .i64 0) 1 8 Try.underlying25 hj hy0 hy1 hy2 rfl (by decide) _ _ _ rfl (hOA.alloc _) ⟨wA.heap.size, 0, none⟩ 2 2 [.int .i64 x1, .int .i64 x2] rfl rfl (cell_two_new _ _ _ _) (by simp [Value.oneCell']) (by have := HLT.out; unfold maxLen; omega) (by have := HLT.out; omega) (by have := HBA.out.size; simp; omega) ?_; intro v' w3 hown' hgrow _)
              go_roundg (n - (i + 1))
              case measure => have := HLT.out; omega
              case rel =>
                refine ⟨i + 1, by go_num, HLT.out, Nat.le_refl _, ?_, ?_⟩
                · refine (HBA.out.alloc HBA.out.size _).grown hgrow (by have := HBA.out.size; simp; omega) (own_base_le hOA)
                · show World.ownsRow _ _ _ _ _ _ _
                  rw [HPR.out, flat_snoc, List.length_append, Nat.add_mul]
                  exact hown'
      · have en : i = n := by omega
        subst en
        have hpl := pr_length d i i
        have hF := fit_both W1.heap.size u6 (pr d i i) wr (by have := HL5.out; omega) HP.out.up (fun j hj => by
          obtain ⟨x, hx, e⟩ := HP.out.mem j hj
          have h1 := dom_at HDM.out hx
          have h2 := DX.out x hx
          rw [e]
          omega) HO.out
        have hF' : Calls Try.prog 27 #[u6] wr fun e W2 => ∃ sa sn sc, e = .returned (.agg #[.slice sa sn sc]) ∧ W2.cell? ⟨w.heap.size, 0, none⟩ = some (.slice none 0 0) ∧ W2.frozen? ⟨w.heap.size, 0, none⟩ = false ∧
            Aside (StampIs W2 (.slice sa sn sc) (pr d i i) ∧ W2.heap[D]? = some (.deferred (some [])) ∧ Below w.heap.size w W2) := by
          refine hF.mono ?_
          rintro e W2 ⟨sv, rfl, hS, hB2⟩
          obtain ⟨sa, sn, sc, rfl⟩ := hS.shape
          have hszr := HB.out.size
          have hY := HY1.out
          have hB3 : Below (w.heap.size + 1) w1 W2 := (HB1.out.trans (HB.out.mono (by omega))).trans (hB2.mono (by omega))
          have hDl : D < W1.heap.size := (Array.getElem?_eq_some_iff.1 HD1.out).1
          exact ⟨sa, sn, sc, rfl, (hB3.cell (p := ⟨w.heap.size, 0, none⟩) (by simp)).trans HBR.out.cell, (hB3.frozen (p := ⟨w.heap.size, 0, none⟩) (by simp)).trans HBR.out.frozen, hS,
            ((hB2.block D (by omega)).trans (HB.out.block D hDl)).trans HD1.out, HBw1.out.trans (hB3.mono (by omega))⟩
        clear hF hpl
        go_wp2_with (go_at_call 27; refine hF'.mono ?_; rintro e W2 ⟨sa, sn, sc, rfl, hcR, hfR, HST⟩)
        obtain ⟨hST, hD2, hB2⟩ := HST.out
        have hDR : D ≠ w.heap.size := by have := HDD.out; omega
        have hD3 : (W2.setCell ⟨w.heap.size, 0, none⟩ (.slice sa sn sc)).heap[D]? = some (.deferred (some [])) := (Below.heap_setCell _ _ _ _ hDR).trans hD2
        have hres : ((W2.setCell ⟨w.heap.size, 0, none⟩ (.slice sa sn sc)).putObj D (.deferred none)).cell? ⟨w.heap.size, 0, none⟩ = some (.slice sa sn sc) :=
          (World.cell?_of_block (World.putObj_heap_other hDR.symm)).trans (World.cell?_setCell_same _ _ _ hcR)
        refine ⟨by simp, .inl ⟨_, _, rfl, run_takeDeferred hD3, ?_⟩⟩
        refine ⟨.agg #[.slice sa sn sc], by simp [results, Try.results20, go_sem, hres], .slice sa sn sc, pr d i i, rfl, ?_, HP.out, ?_⟩
        · have h1 : StampIs (W2.setCell ⟨w.heap.size, 0, none⟩ (.slice sa sn sc)) (.slice sa sn sc) (pr d i i) :=
            hST.other w.heap.size (fun n => by rw [hcR]; simp) (by simp) (fun p hp => World.cell?_of_block (Below.heap_setCell _ _ _ _ hp))
          refine h1.other D (fun n => by simp [World.cell?, hD3]) (by simp [World.putObj]) (fun p hp => World.cell?_of_block (World.putObj_heap_other hp))
        · exact (hB2.setCell (p := ⟨w.heap.size, 0, none⟩) (Nat.le_refl _) _).trans (belowK_b (w := w) (Nat.le_refl _) _ D _ _ (by have := HDD.out; omega) hD3 rfl rfl)
  case stop =>
    rintro D c pre W _ _ h _
    exact h.elim
#print axioms new_any
end Go.Proofs.Qxb6608749a.Law
