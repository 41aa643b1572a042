/-
  FnLowerASCIICaseBlind: the callees lawSwapCase, lawHasCap and the law's walk.
-/
import Derived.Test.Qxb6605763aExact
namespace Go.Proofs.Qxb6605763a.Blind
open Go.ChangeShapes Go.WideShapes Go.ChangeAt Go.RowKit Go.Lib Lower

/-! ### plain -/
def swapB (c : UInt8) : UInt8 := if capN c.toNat then c + 32 else if 97 ≤ c.toNat ∧ c.toNat ≤ 122 then c - 32 else c
def swap (l : List UInt8) : List UInt8 := l.map swapB
theorem swapB_cap {c : UInt8} (h1 : 65 ≤ (c.toNat : Int)) (h2 : (c.toNat : Int) ≤ 90) : ((swapB c).toNat : Int) = (c.toNat : Int) + 32 := by
  unfold swapB
  rw [if_pos (capN_true.2 ⟨by omega, by omega⟩), UInt8.toNat_add]
  have : (32 : UInt8).toNat = 32 := rfl
  omega
theorem swapB_small {c : UInt8} (h1 : 97 ≤ (c.toNat : Int)) (h2 : (c.toNat : Int) ≤ 122) : ((swapB c).toNat : Int) = (c.toNat : Int) - 32 := by
  unfold swapB
  rw [if_neg (by rw [capN_true]; omega), if_pos (by omega), UInt8.toNat_sub]
  have : (32 : UInt8).toNat = 32 := rfl
  omega
theorem swapB_else {c : UInt8} (h : (c.toNat : Int) < 65 ∨ (90 < (c.toNat : Int) ∧ (c.toNat : Int) < 97) ∨ 122 < (c.toNat : Int)) : ((swapB c).toNat : Int) = (c.toNat : Int) := by
  unfold swapB
  rw [if_neg (by rw [capN_true]; omega), if_neg (by omega)]
theorem low_swapB_all : ∀ n : Nat, n < 256 → lowB (swapB (UInt8.ofNat n)) = lowB (UInt8.ofNat n) := by decide +kernel
theorem low_swapB (c : UInt8) : lowB (swapB c) = lowB c := by
  have h := low_swapB_all c.toNat c.toNat_lt
  rw [UInt8.ofNat_toNat] at h
  exact h
theorem low_swap (l : List UInt8) : low (swap l) = low l := by
  unfold low swap; rw [List.map_map]; exact List.map_congr_left fun c _ => low_swapB c

def swAt (s : ByteArray) (m j : Nat) : Nat := if j < m then (swapB (s.get! j)).toNat else 0
theorem swAt_other (s : ByteArray) (m j : Nat) (h : j ≠ m) : swAt s (m + 1) j = swAt s m j := by
  unfold swAt
  by_cases hj : j < m
  · rw [if_pos hj, if_pos (by omega)]
  · rw [if_neg hj, if_neg (by omega)]
theorem get_at (s : ByteArray) (m : Nat) (h : m < s.size) : s.get! m = s[m] := by
  rw [← getD_get]
  have h2 : m < s.data.toList.length := h
  rw [List.getD_eq_getElem?_getD, List.getElem?_eq_getElem h2]; rfl
theorem swAt_new (s : ByteArray) (m : Nat) (h : m < s.size) (x : Int) (hx : ((swapB s[m]).toNat : Int) = x) : ((swAt s (m + 1) m : Nat) : Int) = x := by
  unfold swAt
  rw [if_pos (by omega), get_at s m h]
  exact hx

theorem Row_back {wr : World} {B : Nat} {s : ByteArray} (h : Row wr B s.size (swAt s s.size)) (cap : Nat) :
    (convert 32 9 (.slice (some ⟨B, 0, none⟩) s.size cap)).run Try.prog wr = .ok (.string ⟨(swap s.data.toList).toArray⟩) wr := by
  have hl : (swap s.data.toList).length = s.size := by unfold swap; rw [List.length_map]; rfl
  have hback := run_convert_bytes_back (P := Try.prog) wr 32 9 5 ⟨B, 0, none⟩ cap (swap s.data.toList) Try.underlying32 Try.underlying5 Try.underlying9 (fun j hj => by
    have hj' : j < s.size := by omega
    have hj2 : j < s.data.toList.length := hj'
    rw [add_plain, Nat.zero_add, h.2.1 j hj']
    have e1 : (swap s.data.toList)[j] = swapB (s.data.toList[j]) := by simp [swap]
    have e2 : s.get! j = s.data.toList[j] := by rw [← getD_get, List.getD_eq_getElem?_getD, List.getElem?_eq_getElem hj2]; rfl
    rw [e1, ← e2]
    unfold swAt
    rw [if_pos hj'])
  rw [hl] at hback
  exact hback

theorem info5 : (Try.prog.info? 5).map (fun i => (i.zero, i.size, i.bytes)) = some (some (.int .u8 0), 1, 1) := by kernel_rfl

theorem run_mk (W : World) (n : Nat) (hn : n ≤ 1048576) :
    (Instr.makeSlice 32 (.int .i64 (n : Int)) (.int .i64 (n : Int))).run Try.prog W = .ok (.slice (some ⟨W.heap.size, 0, none⟩) n n) (W.alloc (.cells (madeCells #[.int .u8 0] n) 5)) := by
  obtain ⟨i, hi, hz0, hz1, hz2⟩ := info_parts info5
  have h := run_make (P := Try.prog) W 32 5 i _ Try.underlying32 hi hz0 .i64 .i64 n n (by omega) (Int.le_refl _) (by rw [hz2]; omega) (by omega)
  rw [hz1, Nat.mul_one, Int.toNat_natCast] at h
  exact h

theorem Row_made (W : World) (n : Nat) (s : ByteArray) : Row (W.alloc (.cells (madeCells #[.int .u8 0] n) 5)) W.heap.size n (swAt s 0) := by
  refine ⟨by simp, fun j hj => ?_, fun j hj => by simp⟩
  have e : (madeCells #[Value.int .u8 0] n)[j]? = some (.int .u8 0) := by
    rw [← Array.getElem?_toList, toList_madeCells_one]
    simp [hj]
  unfold swAt
  rw [if_neg (by omega)]
  rw [World.cell?_alloc_mark]
  exact e

set_option maxHeartbeats 1000000 in
set_option maxRecDepth 100000 in
theorem swap_any (s : ByteArray) (w : World) (hs : s.size ≤ 1048576) :
    Calls Try.prog 11 #[.string s] w fun e w' => e = .returned (.string ⟨(swap s.data.toList).toArray⟩) ∧ Below w.heap.size w w' := by
  have hmk := fun W => run_mk W s.size hs
  have hz := Row_made w s.size s
  generalize hX : madeCells #[Value.int .u8 0] s.size = X at hmk hz
  clear hX
  go_enter Try.func11, Try.ntmps11
  go_wp2
  clear hmk
  go_loopw [4] (fun i wr => ∃ m : Nat, m ≤ s.size ∧ i = .int .i64 m ∧ Below w.heap.size w wr ∧ Row wr w.heap.size s.size (swAt s m)) (fun i _ => s.size - (intOf i).toNat)
  case atStart => exact ⟨0, Nat.zero_le _, rfl, (Below.refl _ _).alloc (Nat.le_refl _) _, hz⟩
  case round =>
    obtain ⟨m, hms, rfl, hbr, hR⟩ := hrel
    by_cases hlt : m < s.size
    · have hc := hR.2.1 m hlt
      have hf := hR.2.2 m hlt
      have hbm : (s[m].toNat : Int) < 256 := by have := s[m].toNat_lt; omega
      have hca : (s[m].toNat : Int) < 65 ∨ (65 ≤ (s[m].toNat : Int) ∧ (s[m].toNat : Int) ≤ 90) ∨ (90 < (s[m].toNat : Int) ∧ (s[m].toNat : Int) < 97) ∨ (97 ≤ (s[m].toNat : Int) ∧ (s[m].toNat : Int) ≤ 122) ∨ 122 < (s[m].toNat : Int) := by omega
      rcases hca with h1 | ⟨h1, h2⟩ | ⟨h1, h2⟩ | ⟨h1, h2⟩ | h1
      all_goals
        go_wp2
        go_roundw
        case rel => exact ⟨m + 1, by omega, by go_num, hbr.setCell (Nat.le_refl _) _, hR.set m hlt _ (swAt_new s m hlt _ (by first | exact swapB_cap h1 h2 | exact swapB_small h1 h2 | exact swapB_else (by omega))) (fun j hj => swAt_other s m j hj)⟩
        case measure => simp [intOf]; omega
    · have hm : m = s.size := by omega
      subst hm
      have hback := Row_back hR s.size
      go_wp2
      go_ret
      exact ⟨rfl, hbr⟩

end Go.Proofs.Qxb6605763a.Blind
