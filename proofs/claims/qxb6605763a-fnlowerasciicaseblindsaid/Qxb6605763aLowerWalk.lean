import Derived.Test.Qxb6605763aRows
import Derived.Test.Qxb6605763aShelf
import Derived.Test.Qxb6605763aLower
import Derived.WalkKit
import Derived.ProofKit
import Derived.WalkLawsBesides
import Derived.Outline
import Derived.Lib.ConvBytes
import Derived.Laws.IdiomStrings
import Derived.Deep.QuietTactic
import Derived.BigQuiet
namespace Go.Proofs.Qxb6605763a.Lower
open Go.ChangeShapes Go.WideShapes Go.ChangeAt Go.RowKit Go.Lib

theorem isCap_pred (w : World) : PredAt Try.prog 28 #[] encR capN w := fun W r _ => by
  unfold FnGives
  by_cases h1 : 65 ≤ r <;> by_cases h2 : r ≤ 90
  all_goals
    have z1 : (65 : Int) ≤ (r : Int) ↔ 65 ≤ r := by omega
    have z2 : (r : Int) ≤ 90 ↔ r ≤ 90 := by omega
    go_enter Try.func28, Try.ntmps28
    go_wp2
    all_goals first | (exfalso; omega) | (go_ret; exact ⟨by simp [capN, h1, h2], 0, rfl⟩)

theorem indexFunc_any (s : ByteArray) (w : World) :
    Calls Try.prog 27 #[.string s, .func (.func 28) #[] #[]] w fun e w' => e = .returned (.int .i64 (Lib.idxFunc capN true s)) ∧ Below w.heap.size w w' :=
  Lay.strings_IndexFunc 28 #[] (enters_of Try.func28 (by kernel_rfl) rfl) capN s w (isCap_pred w)

set_option maxHeartbeats 400000 in
theorem lower_none (s : ByteArray) (w : World) (h : Lib.idxFunc capN true s = -1) :
    Calls Try.prog 22 #[.string s] w fun e w' => e = .returned (.string s) ∧ Below w.heap.size w w' := by
  have hC := indexFunc_any s w
  rw [h] at hC
  clear h
  go_enter Try.func22, Try.ntmps22
  go_wp2_with (go_at_call 27; refine hC.mono ?_; rintro e w' ⟨rfl, hb⟩)
  go_ret
  exact ⟨rfl, hb⟩

/-- The row when the bytes before m have been turned. -/
def rowAt (s : ByteArray) (m j : Nat) : Nat := if j < m then (lowB (s.get! j)).toNat else (s.get! j).toNat
theorem getD_get (s : ByteArray) (i : Nat) : s.data.toList.getD i 0 = s.get! i := by
  cases s with
  | mk d =>
    show d.toList.getD i 0 = d[i]!
    by_cases h : i < d.size
    · rw [getElem!_pos d i h]; simp [List.getD, h]
    · rw [getElem!_neg d i h]; simp [List.getD, h]; rfl
theorem rowAt_at (s : ByteArray) (m : Nat) : rowAt s m m = (s.get! m).toNat := by unfold rowAt; rw [if_neg (by omega)]
theorem rowAt_other (s : ByteArray) (m j : Nat) (h : j ≠ m) : rowAt s (m + 1) j = rowAt s m j := by
  unfold rowAt
  by_cases hj : j < m
  · rw [if_pos hj, if_pos (by omega)]
  · rw [if_neg hj, if_neg (by omega)]
theorem rowAt_cap (s : ByteArray) (m : Nat) (h1 : 65 ≤ (rowAt s m m : Int)) (h2 : (rowAt s m m : Int) ≤ 90) : ((rowAt s (m + 1) m : Nat) : Int) = (rowAt s m m : Int) + 32 := by
  rw [rowAt_at] at h1 h2 ⊢
  have hc : capN (s.get! m).toNat = true := capN_true.2 ⟨by omega, by omega⟩
  unfold rowAt
  rw [if_pos (by omega), lowB_cap hc]
  omega
theorem rowAt_not (s : ByteArray) (m : Nat) (h : ¬ (65 ≤ (rowAt s m m : Int) ∧ (rowAt s m m : Int) ≤ 90)) (j : Nat) : rowAt s (m + 1) j = rowAt s m j := by
  by_cases hj : j = m
  · subst hj
    rw [rowAt_at] at h ⊢
    have hc : capN (s.get! j).toNat = false := capN_false.2 (by omega)
    unfold rowAt
    rw [if_pos (by omega), lowB_not hc]
  · exact rowAt_other s m j hj
theorem rowAt_bound (s : ByteArray) (m j : Nat) : (0 : Int) ≤ rowAt s m j ∧ (rowAt s m j : Int) ≤ 255 := by
  unfold rowAt
  have h1 := (lowB (s.get! j)).toNat_lt
  have h2 := (s.get! j).toNat_lt
  split <;> omega

theorem below_conv (B : Nat) (w : World) (s : ByteArray) (h : B ≤ w.heap.size) : Below B w (Lib.bytesWorld w 5 s) where
  os := rfl
  tape := rfl
  output := rfl
  size := by rw [Lib.bytesWorld_size]; omega
  block := fun k hk => Lib.bytesWorld_at_old w 5 s k (by omega)
/-- A row of n bytes of the call's own. -/
def Row (wr : World) (B n : Nat) (f : Nat → Nat) : Prop :=
  B < wr.heap.size ∧ (∀ j, j < n → wr.cell? ⟨B, j, none⟩ = some (.int .u8 (f j))) ∧ ∀ j, j < n → wr.frozen? ⟨B, j, none⟩ = false
theorem Row.set {wr : World} {B n : Nat} {f f' : Nat → Nat} (h : Row wr B n f) (m : Nat) (hm : m < n) (x : Int) (hx : ((f' m : Nat) : Int) = x) (ho : ∀ j, j ≠ m → f' j = f j) :
    Row (wr.setCell ⟨B, m, none⟩ (.int .u8 x)) B n f' := by
  obtain ⟨h1, h2, h3⟩ := h
  refine ⟨by simpa using h1, fun j hj => ?_, fun j hj => by rw [World.frozen?_setCell]; exact h3 j hj⟩
  by_cases hjm : j = m
  · subst hjm; rw [World.cell?_setCell_same _ _ _ (h2 j hj), hx]
  · rw [World.cell?_setCell_other _ _ _ _ (fun e => hjm (by injection e with _ e2 _; exact e2.symm)), ho j hjm]; exact h2 j hj
theorem Row.congr {wr : World} {B n : Nat} {f f' : Nat → Nat} (h : Row wr B n f) (ho : ∀ j, f' j = f j) : Row wr B n f' := by
  have : f' = f := funext ho
  rw [this]; exact h
theorem Row.bytes (w : World) (s : ByteArray) : Row (Lib.bytesWorld w 5 s) w.heap.size s.size (fun j => (s.get! j).toNat) := by
  refine ⟨by rw [Lib.bytesWorld_size]; omega, fun j hj => by rw [Lib.bytesWorld_cell w 5 s j hj, getD_get], fun j hj => ?_⟩
  have hsz : s.size ≤ (Lib.bytesCells w 5 s).size := by
    simp only [Lib.bytesCells, Array.size_append, Array.size_map, Array.size_replicate]
    have : s.data.size = s.size := rfl
    omega
  simp only [World.frozen?, Lib.bytesWorld_at_new]
  simp
  omega

theorem Row.back {wr : World} {B : Nat} {s : ByteArray} (h : Row wr B s.size (rowAt s s.size)) (cap : Nat) :
    (convert 32 9 (.slice (some ⟨B, 0, none⟩) s.size cap)).run Try.prog wr = .ok (.string ⟨(low s.data.toList).toArray⟩) wr := by
  have hl : (low s.data.toList).length = s.size := by rw [low_length]; rfl
  have hback := run_convert_bytes_back (P := Try.prog) wr 32 9 5 ⟨B, 0, none⟩ cap (low s.data.toList) Try.underlying32 Try.underlying5 Try.underlying9 (fun j hj => by
    have hj' : j < s.size := by omega
    have hj2 : j < s.data.toList.length := by rw [low_length] at hj; exact hj
    rw [add_plain, Nat.zero_add, h.2.1 j hj']
    have e1 : (low s.data.toList)[j] = lowB (s.data.toList[j]) := by simp [low]
    have e2 : s.get! j = s.data.toList[j] := by rw [← getD_get, List.getD_eq_getElem?_getD, List.getElem?_eq_getElem hj2]; rfl
    rw [e1, ← e2]
    unfold rowAt
    rw [if_pos hj'])
  rw [hl] at hback
  exact hback

set_option maxHeartbeats 400000 in
set_option maxRecDepth 100000 in
theorem lower_some (s : ByteArray) (k : Nat) (w : World) (hs : s.size ≤ maxLen) (hk : k < s.size) (h : Lib.idxFunc capN true s = k) (hz : ∀ j, j < k → capN (s.get! j).toNat = false) :
    Calls Try.prog 22 #[.string s] w fun e w' => e = .returned (.string ⟨(low s.data.toList).toArray⟩) ∧ Below w.heap.size w w' := by
  unfold maxLen at hs
  have hC := indexFunc_any s w
  rw [h] at hC
  clear h
  have hconv := fun W => Lib.run_convert_string_bytes (P := Try.prog) W 9 32 5 s Try.underlying9 Try.underlying32 Try.underlying5
  go_enter Try.func22, Try.ntmps22
  go_wp2_with (go_at_call 27; refine hC.mono ?_; rintro e w' ⟨rfl, hb⟩)
  clear hconv hC
  go_loopw [3] (fun i wr => ∃ m : Nat, k ≤ m ∧ m ≤ s.size ∧ i = .int .i64 m ∧ Below w.heap.size w wr ∧ Row wr w'.heap.size s.size (rowAt s m)) (fun i _ => s.size - (intOf i).toNat)
  case atStart =>
    refine ⟨k, Nat.le_refl _, by omega, rfl, hb.trans (below_conv _ _ _ hb.size), (Row.bytes w' s).congr fun j => ?_⟩
    unfold rowAt
    split
    · rename_i hjk; rw [lowB_not (hz j hjk)]
    · rfl
  case round =>
    obtain ⟨m, hkm, hms, rfl, hbr, hR⟩ := hrel
    have hB : w.heap.size ≤ w'.heap.size := hb.size
    by_cases hlt : m < s.size
    · have hc := hR.2.1 m hlt
      have hf := hR.2.2 m hlt
      have hbm := rowAt_bound s m m
      by_cases hcap : 65 ≤ (rowAt s m m : Int) ∧ (rowAt s m m : Int) ≤ 90
      · obtain ⟨c1, c2⟩ := hcap
        go_wp2
        go_roundw
        case rel => exact ⟨m + 1, by omega, by omega, by go_num, hbr.setCell hB _, hR.set m hlt _ (rowAt_cap s m c1 c2) (fun j hj => rowAt_other s m j hj)⟩
        case measure => simp [intOf]; omega
      · have hn := rowAt_not s m hcap
        by_cases c1 : 65 ≤ (rowAt s m m : Int)
        all_goals
          go_wp2
          all_goals first | (exfalso; omega) | skip
          go_roundw
          case rel => exact ⟨m + 1, by omega, by omega, by go_num, hbr, hR.congr hn⟩
          case measure => simp [intOf]; omega
    · have hm : m = s.size := by omega
      subst hm
      have hback := hR.back (grownCap w' s.size 0 5)
      go_wp2
      go_ret
      exact ⟨rfl, hbr⟩
theorem list_get (s : ByteArray) (c : UInt8) (h : c ∈ s.data.toList) : ∃ j, j < s.size ∧ c = s.get! j := by
  obtain ⟨j, hj, rfl⟩ := List.getElem_of_mem h
  exact ⟨j, hj, by rw [← getD_get, List.getD_eq_getElem?_getD, List.getElem?_eq_getElem hj]; rfl⟩

/-- lowerASCII, at every string: each byte by itself. -/
theorem lower_any (s : ByteArray) (w : World) (hs : s.size ≤ maxLen) :
    Calls Try.prog 22 #[.string s] w fun e w' => e = .returned (.string ⟨(low s.data.toList).toArray⟩) ∧ Below w.heap.size w w' := by
  rcases idx_spec s with ⟨h, hn⟩ | ⟨k, h, hk, hz⟩
  · have e : low s.data.toList = s.data.toList := low_same fun c hc => by
      obtain ⟨j, hj, rfl⟩ := list_get s c hc
      exact hn j hj
    rw [e]
    exact lower_none s w h
  · exact lower_some s k w hs hk h hz

/-- ZZlowerASCII. -/
theorem zzlower_any (s : ByteArray) (w : World) (hs : s.size ≤ maxLen) :
    Calls Try.prog 8 #[.string s] w fun e w' => e = .returned (.string ⟨(low s.data.toList).toArray⟩) ∧ Below w.heap.size w w' := by
  have hC := lower_any s w hs
  go_enter Try.func8, Try.ntmps8
  go_wp2_with (go_at_call 22; refine hC.mono ?_; rintro e w' ⟨rfl, hb⟩)
  go_ret
  exact ⟨rfl, hb⟩

/-- lawIsCap. -/
theorem isCap_any (c : Int) (w : World) :
    Calls Try.prog 9 #[.int .u8 c] w fun e w' => e = .returned (.bool (decide (65 ≤ c) && decide (c ≤ 90))) ∧ w' = w := by
  by_cases h1 : 65 ≤ c <;> by_cases h2 : c ≤ 90
  all_goals
    go_enter Try.func9, Try.ntmps9
    go_wp2
    all_goals first | (exfalso; omega) | (go_ret; exact ⟨by simp [h1, h2], rfl⟩)

#print axioms zzlower_any
end Go.Proofs.Qxb6605763a.Lower
