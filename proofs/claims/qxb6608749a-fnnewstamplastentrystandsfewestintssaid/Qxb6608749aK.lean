/-
  (Stamp).At, (Stamped).K once more: they draw, and lay blocks of their own: no more.
-/
import Derived.Test.Qxb6608749aLaws
import Derived.Test.Qxb6608749aOpen
import Derived.Sort.Grow
namespace Go.Proofs.Qxb6608749a.Law
open Go.RowKit Go.Shelf Go.Sort

/-- w' is w with draws and with new blocks. -/
def Gr (w w' : World) : Prop := ∃ q os, w' = grow (w.drewN q) os
theorem Gr.refl (w : World) : Gr w w := ⟨0, #[], by rw [grow_empty]; rfl⟩
theorem Gr.alloc (w : World) (o : Obj) : Gr w (w.alloc o) := ⟨0, #[o], alloc_eq_grow w o⟩
theorem Gr.drewN (w : World) (q : Nat) : Gr w (w.drewN q) := ⟨q, #[], by rw [grow_empty]⟩
theorem Gr.trans {a b c : World} (h : Gr a b) (k : Gr b c) : Gr a c := by
  obtain ⟨q, os, rfl⟩ := h
  obtain ⟨q', os', rfl⟩ := k
  exact ⟨q + q', os ++ os', by show grow (grow ((a.drewN q).drewN q') os) os' = _; rw [grow_grow, World.drewN_drewN]⟩
theorem Gr.alloc' {a b : World} (h : Gr a b) (o : Obj) : Gr a (b.alloc o) := h.trans (Gr.alloc b o)
theorem Gr.drew {a b : World} (h : Gr a b) (q : Nat) : Gr a (b.drewN q) := h.trans (Gr.drewN b q)
theorem Gr.below {w w' : World} (h : Gr w w') : Below w.heap.size w w' := by
  obtain ⟨q, os, rfl⟩ := h
  refine ⟨rfl, rfl, rfl, ?_, fun k hk => ?_⟩
  · show w.heap.size ≤ (w.heap ++ os).size
    simp
  · show (w.heap ++ os)[k]? = _
    rw [Array.getElem?_append_left hk]

theorem sparseAtG_zero (p : Int) (w : World) :
    Calls Try.prog 22 #[.agg #[.slice none 0 0], .int .i64 p] w fun e w' => e = .returned (.int .i64 0) ∧ Gr w w' := by
  go_enter Try.func22, Try.ntmps22
  go_wp2_with fail
  refine (pairs_zero _).mono ?_
  rintro e w1 ⟨rfl, rfl⟩
  go_wp2_with fail
  refine (find_nil _ _).mono ?_
  rintro e w2 ⟨rfl, q, rfl⟩
  go_wp2
  go_ret
  exact ⟨rfl, ((Gr.alloc w _).alloc' _).drew q⟩
theorem sparseAtG_dense (g N c : Nat) (p : Int) (w : World) (hN : (0 : Int) < (N : Int)) :
    Calls Try.prog 22 #[.agg #[.slice (some ⟨g, 0, none⟩) N c], .int .i64 p] w fun e w' => e = .returned (.int .i64 0) ∧ Gr w w' := by
  go_enter Try.func22, Try.ntmps22
  go_wp2_with fail
  refine (pairs_dense _ _ _ _ hN).mono ?_
  rintro e w1 ⟨rfl, rfl⟩
  go_wp2_with fail
  refine (find_nil _ _).mono ?_
  rintro e w2 ⟨rfl, q, rfl⟩
  go_wp2
  go_ret
  exact ⟨rfl, ((Gr.alloc w _).alloc' _).drew q⟩
set_option maxHeartbeats 400000 in
theorem sparseAtG_sparse (g n : Nat) (P : List (Int × Int)) (p : Int) (w : World) (hn : n = 2 * P.length) (hl : P.length ≤ 1048576) (hU : Up P) (hg : g < w.heap.size) (hR : PairRow w g P) :
    Calls Try.prog 22 #[.agg #[.slice (some ⟨g, 0, none⟩) 0 n], .int .i64 p] w fun e w' => e = .returned (.int .i64 (look P p)) ∧ Gr w w' := by
  have HR : Aside (PairRow w g P) := hR
  have HU : Aside (Up P) := hU
  have HN : Hid (n = 2 * P.length) := hn
  have HL : Hid (P.length ≤ 1048576) := hl
  have HG : Hid (g < w.heap.size) := hg
  clear hR hU hn hl hg
  go_enter Try.func22, Try.ntmps22
  go_wp2_with fail
  refine (pairs_sparse _ _ _).mono ?_
  rintro e w1 ⟨rfl, rfl⟩
  go_wp2_with fail
  have hb := ((Below.refl _ w).alloc (Nat.le_refl _) (.cells #[.slice (some ⟨g, 0, none⟩) 0 n] 27)).alloc (by simp) (.cells #[.slice (some ⟨g, 0, none⟩) 0 n] 27)
  refine (find_any g n n P p _ HN.out HL.out HU.out (HR.out.later hb HG.out)).mono ?_
  rintro e w2 ⟨⟨j, ok, rfl, hjl, h1, h2⟩, q, rfl⟩
  cases ok with
  | true =>
    obtain ⟨hj, hp⟩ := h1 rfl
    have hlk : Hid (look P p = (ent P j).2) := look_at HU.out j hj hp
    have hcell := ((HR.out.later hb HG.out) j hj).2
    have e2 : (2 * (j : Int) + 1).toNat = 2 * j + 1 := by omega
    have bj : 2 * (j : Int) + 1 < (n : Int) := by have := HN.out; omega
    have b0 : (j : Int) ≤ 1048576 := by have := HL.out; omega
    clear h1 h2 hp hj hb hjl
    go_wp2
    go_ret
    exact ⟨ret_int hlk.out.symm, ((Gr.alloc w _).alloc' _).drew q⟩
  | false =>
    have hlk : Hid (look P p = 0) := look_none (h2 rfl)
    clear h1 h2 hb hjl
    go_wp2
    go_ret
    exact ⟨ret_int hlk.out.symm, ((Gr.alloc w _).alloc' _).drew q⟩

/-- (Stamp).At. -/
theorem atG_any (sv : Value) (P : List (Int × Int)) (p : Int) (w : World) (hS : StampIs w sv P) (hU : Up P) (hl : P.length ≤ 1048576) (hp : 0 ≤ p) :
    Calls Try.prog 10 #[.agg #[sv], .int .i64 p] w fun e w' => e = .returned (.int .i64 (look P p)) ∧ Gr w w' := by
  rcases hS with ⟨h0, rfl⟩ | ⟨g, h0, h1, rfl, hg, hR⟩ | ⟨g, N, h0, h1, h2, h3, rfl, hg, hc⟩
  · rw [look_none fun j hj => by omega]
    go_enter Try.func10, Try.ntmps10
    go_wp2_with (go_at_call 22; refine (sparseAtG_zero _ _).mono ?_; rintro e w' ⟨rfl, hb⟩)
    go_ret
    exact ⟨rfl, (Gr.alloc w _).trans hb⟩
  · obtain ⟨n, hn⟩ : ∃ n, n = 2 * P.length := ⟨_, rfl⟩
    rw [← hn]
    have hb := (Below.refl _ w).alloc (Nat.le_refl _) (.cells #[.slice (some ⟨g, 0, none⟩) 0 n] 27)
    have hC := sparseAtG_sparse g n P p _ hn hl hU (Nat.lt_of_lt_of_le hg hb.size) (hR.later hb hg)
    clear hn hR hb h1 h0
    go_enter Try.func10, Try.ntmps10
    go_wp2_with (go_at_call 22; refine hC.mono ?_; rintro e w' ⟨rfl, hb⟩)
    go_ret
    exact ⟨rfl, (Gr.alloc w _).trans hb⟩
  · by_cases hlt : p < (N : Int)
    · obtain ⟨j, rfl⟩ := Int.eq_ofNat_of_zero_le hp
      have hcell := hc j (by omega)
      have HG : Hid (g < w.heap.size) := hg
      clear hc h0 h1 h2
      go_enter Try.func10, Try.ntmps10
      go_wp2
      go_ret
      exact ⟨rfl, Gr.alloc w _⟩
    · rw [above_high hU (by omega)]
      clear h1 h2 hc
      have hN : (0 : Int) < (N : Int) := by omega
      go_enter Try.func10, Try.ntmps10
      go_wp2_with (go_at_call 22; refine (sparseAtG_dense _ _ _ _ _ hN).mono ?_; rintro e w' ⟨rfl, hb⟩)
      go_ret
      exact ⟨rfl, (Gr.alloc w _).trans hb⟩

theorem at_g (sa : Option Addr) (sn sc : Nat) (l : List (Int × Int)) (p : Int) (w : World) (h : Holds w sa sn sc l) (hl : l.length ≤ 5000) (hp : 0 ≤ p) :
    Calls Try.prog 10 #[.agg #[.slice sa sn sc], .int .i64 p] w fun e w' => e = .returned (.int .i64 (lastC l p)) ∧ Gr w w' := by
  obtain ⟨P, h1, h2⟩ := h
  rw [← h2.look]
  exact atG_any _ P p w h1 h2.up (by have := h2.len; omega) hp

set_option maxRecDepth 100000 in
set_option maxHeartbeats 1000000 in
theorem k_g (x0 : Int) (s1 : ByteArray) (x2 : Int) (s3 s4 : ByteArray) (x5 x6 : Int) (sa : Option Addr) (sn sc : Nat) (l : List (Int × Int)) (p : Int) (w : World) (h : Holds w sa sn sc l) (hl : l.length ≤ 5000) (hp : 0 ≤ p) :
    Calls Try.prog 18 #[.agg #[.int .i64 x0, .string s1, .int .u8 x2, .string s3, .string s4, .int .i64 x5, .int .i64 x6, .int .i64 p, .slice sa sn sc]] w fun e w' => e = .returned (.int .i64 (lastC l p)) ∧ Gr w w' := by
  have HH : Aside (Holds w sa sn sc l) := h
  have HP : Hid (0 ≤ p) := hp
  clear h hp
  go_enter Try.func18, Try.ntmps18
  go_wp2_with fail
  refine (at_g sa sn sc l p _ (HH.out.later ((Below.refl _ w).alloc (Nat.le_refl _) _)) hl HP.out).mono ?_
  rintro e w1 ⟨rfl, hb⟩
  have HB : Aside (Gr w w1) := (Gr.alloc w _).trans hb
  clear hb
  go_wp2
  go_ret
  exact ⟨rfl, HB.out⟩
theorem k_c (x0 : Int) (s1 : ByteArray) (x2 : Int) (s3 s4 : ByteArray) (x5 x6 : Int) (sa : Option Addr) (sn sc : Nat) (l : List (Int × Int)) (p : Int) (w : World) (h : Holds w sa sn sc l) (hl : l.length ≤ 5000) (hp : 0 ≤ p) :
    Calls Try.prog 18 #[.agg #[.int .i64 x0, .string s1, .int .u8 x2, .string s3, .string s4, .int .i64 x5, .int .i64 x6, .int .i64 p, .slice sa sn sc]] w fun e w' => e = .returned (.int .i64 (lastC l p)) ∧ Below w.heap.size w w' :=
  (k_g x0 s1 x2 s3 s4 x5 x6 sa sn sc l p w h hl hp).mono fun _ _ ⟨he, hg⟩ => ⟨he, hg.below⟩
/-- .. in every world of the kind that a region of calls passes through. -/
theorem k_r (x0 : Int) (s1 : ByteArray) (x2 : Int) (s3 s4 : ByteArray) (x5 x6 : Int) (sa : Option Addr) (sn sc : Nat) (l : List (Int × Int)) (p : Int) (w : World) (h : Holds w sa sn sc l) (hl : l.length ≤ 5000) (hp : 0 ≤ p) (n : Nat) (os : Array Obj) :
    Calls Try.prog 18 #[.agg #[.int .i64 x0, .string s1, .int .u8 x2, .string s3, .string s4, .int .i64 x5, .int .i64 x6, .int .i64 p, .slice sa sn sc]] (grow (w.drewN n) os) fun e w' => e = .returned (.int .i64 (lastC l p)) ∧ ∃ q os', w' = grow ((grow (w.drewN n) os).drewN q) os' :=
  k_g x0 s1 x2 s3 s4 x5 x6 sa sn sc l p _ (h.later (Gr.below ⟨n, os, rfl⟩)) hl hp
theorem count_r (a : Option Addr) (n cap : Nat) (l : List (Int × Int)) (p : Int) (w : World) (hn : l.length = n) (hE : Ent w a l) (hl : n ≤ 1048576) (m : Nat) (os : Array Obj) :
    Calls Try.prog 11 #[.slice a n cap, .int .i64 p] (grow (w.drewN m) os) fun e w' => e = .returned (.int .i64 (lastC l p)) ∧ ∃ q os', w' = grow ((grow (w.drewN m) os).drewN q) os' :=
  (count_c a n cap l p _ hn (hE.below (Gr.below ⟨m, os, rfl⟩)) hl).mono fun _ _ ⟨he, hw⟩ => ⟨he, by rw [hw]; exact Gr.refl _⟩
#print axioms k_r
end Go.Proofs.Qxb6608749a.Law
