/-
  A slice of entries that is read as a list; inDomain, lastCount, namesProc: contracts.
-/
import Derived.Test.Qxb6608749aRows
import Derived.WalkKit
import Derived.ProofKit
import Derived.WalkLawsBesides
import Derived.Outline
import Derived.Deep.LoopGhost
import Derived.Deep.QuietTactic
import Derived.BigQuiet
namespace Go.Proofs.Qxb6608749a.Law
open Go.RowKit

/-- Entry j of the list (out of range: zeros). -/
def ent (l : List (Int × Int)) (j : Nat) : Int × Int := l.getD j (0, 0)
theorem ent_get (l : List (Int × Int)) (j : Nat) (h : j < l.length) : ent l j = l[j] := by
  unfold ent; rw [List.getD_eq_getElem?_getD, List.getElem?_eq_getElem h]; rfl
theorem ent_mem (l : List (Int × Int)) (j : Nat) (h : j < l.length) : ent l j ∈ l := by rw [ent_get l j h]; exact List.getElem_mem h

/-- The slice at address a reads, in W, as l. -/
def Ent (W : World) (a : Option Addr) (l : List (Int × Int)) : Prop :=
  l = [] ∨ ∃ b o, a = some ⟨b, o, none⟩ ∧ b < W.heap.size ∧ ∀ j, j < l.length → W.cell? ⟨b, o + j * 2, none⟩ = some (.int .i64 (ent l j).1) ∧ W.cell? ⟨b, o + j * 2 + 1, none⟩ = some (.int .i64 (ent l j).2)

theorem Ent.below {W W' : World} {a : Option Addr} {l : List (Int × Int)} (h : Ent W a l) (hb : Below W.heap.size W W') : Ent W' a l := by
  rcases h with rfl | ⟨b, o, rfl, hlt, hc⟩
  · exact .inl rfl
  · refine .inr ⟨b, o, rfl, Nat.lt_of_lt_of_le hlt hb.size, fun j hj => ?_⟩
    rw [hb.cell (p := ⟨b, o + j * 2, none⟩) hlt, hb.cell (p := ⟨b, o + j * 2 + 1, none⟩) hlt]
    exact hc j hj
theorem Ent.at {W : World} {a : Option Addr} {l : List (Int × Int)} (h : Ent W a l) (j : Nat) (hj : j < l.length) :
    ∃ b o, a = some ⟨b, o, none⟩ ∧ W.cell? ⟨b, o + j * 2, none⟩ = some (.int .i64 (ent l j).1) ∧ W.cell? ⟨b, o + j * 2 + 1, none⟩ = some (.int .i64 (ent l j).2) := by
  rcases h with rfl | ⟨b, o, rfl, hlt, hc⟩
  · simp at hj
  · exact ⟨b, o, rfl, hc j hj⟩

/-! ### the plain functions -/
def okE (x : Int × Int) : Bool := decide (0 ≤ x.1) && !(x.1 == 9223372036854775807)
def dom (l : List (Int × Int)) : Bool := l.all okE
theorem dom_of {l : List (Int × Int)} (h : ∀ j, j < l.length → okE (ent l j) = true) : dom l = true := by
  unfold dom
  rw [List.all_eq_true]
  intro x hx
  obtain ⟨j, hj, rfl⟩ := List.getElem_of_mem hx
  rw [← ent_get l j hj]
  exact h j hj
theorem dom_not {l : List (Int × Int)} (j : Nat) (hj : j < l.length) (h : okE (ent l j) = false) : dom l = false := by
  unfold dom
  rw [List.all_eq_false]
  exact ⟨ent l j, ent_mem l j hj, by rw [h]; decide⟩
theorem dom_at {l : List (Int × Int)} (h : dom l = true) {x : Int × Int} (hx : x ∈ l) : 0 ≤ x.1 ∧ x.1 ≠ 9223372036854775807 := by
  unfold dom at h
  rw [List.all_eq_true] at h
  have := h x hx
  unfold okE at this
  simpa using this

/-- The count of the last of the first k entries that names p. -/
def lcTo (l : List (Int × Int)) (p : Int) : Nat → Int
  | 0 => 0
  | k + 1 => if (ent l k).1 = p then (ent l k).2 else lcTo l p k
def lastC (l : List (Int × Int)) (p : Int) : Int := lcTo l p l.length
def nm (l : List (Int × Int)) (p : Int) : Bool := l.any fun x => x.1 == p
theorem nm_true {l : List (Int × Int)} {p : Int} (j : Nat) (hj : j < l.length) (h : (ent l j).1 = p) : nm l p = true := by
  unfold nm
  rw [List.any_eq_true]
  exact ⟨ent l j, ent_mem l j hj, by rw [h]; simp⟩
theorem nm_false {l : List (Int × Int)} {p : Int} (h : ∀ j, j < l.length → (ent l j).1 ≠ p) : nm l p = false := by
  unfold nm
  rw [List.any_eq_false]
  intro x hx
  obtain ⟨j, hj, rfl⟩ := List.getElem_of_mem hx
  rw [← ent_get l j hj]
  simpa using h j hj

theorem ret_bool {a b : Bool} (h : a = b) : Ending.returned (.bool a) = .returned (.bool b) := by rw [h]
theorem ret_int {a b : Int} (h : a = b) : Ending.returned (.int .i64 a) = .returned (.int .i64 b) := by rw [h]

/-! ### the walks -/
set_option maxHeartbeats 1000000 in
set_option maxRecDepth 100000 in
theorem inDomain_any (a : Option Addr) (cap : Nat) (l : List (Int × Int)) (w : World) (hE : Ent w a l) (hl : l.length ≤ 1048576) :
    Calls Try.prog 8 #[.slice a l.length cap] w fun e w' => e = .returned (.bool (dom l)) ∧ w' = w := by
  have HE : Aside (Ent w a l) := hE
  clear hE
  go_enter Try.func8, Try.ntmps8
  go_wp2
  go_loop [3] (fun i => ∃ k : Nat, k ≤ l.length ∧ i = .int .i64 k ∧ Aside (∀ j, j < k → okE (ent l j) = true)) (fun i => l.length - (intOf i).toNat)
  case atStart => exact ⟨0, Nat.zero_le _, rfl, fun j hj => by omega⟩
  case round =>
    obtain ⟨k, hk, rfl, HO⟩ := hrel
    by_cases hlt : k < l.length
    · obtain ⟨b, o, rfl, hc0, hc1⟩ := HE.out.at k hlt
      have hltz : (k : Int) < (l.length : Int) := by omega
      have HK : Hid (k < l.length) := hlt
      clear hlt
      by_cases h1 : (ent l k).1 < 0
      · have H1 : Hid (dom l = false) := dom_not k HK.out (by unfold okE; rw [decide_eq_false (by omega)]; rfl)
        go_wp2
        go_ret
        exact ⟨ret_bool H1.out.symm, rfl⟩
      · have h1' : (ent l k).1 < 0 ↔ False := by simp; omega
        cases h2 : ((ent l k).1 == 9223372036854775807) with
        | true =>
          have H1 : Hid (dom l = false) := dom_not k HK.out (by unfold okE; rw [h2]; simp)
          go_wp2
          go_ret
          exact ⟨ret_bool H1.out.symm, rfl⟩
        | false =>
          have H1 : Hid (okE (ent l k) = true) := by show okE _ = true; unfold okE; rw [h2, decide_eq_true (by omega)]; rfl
          go_wp2
          go_round
          case rel => exact ⟨k + 1, HK.out, by go_num, fun j hj => by
            by_cases e : j = k
            · subst e; exact H1.out
            · exact HO.out j (by omega)⟩
          case measure => have := HK.out; simp [intOf]; omega
    · have H1 : Hid (dom l = true) := dom_of fun j hj => HO.out j (by omega)
      go_wp2
      go_ret
      exact ⟨ret_bool H1.out.symm, rfl⟩

set_option maxHeartbeats 1000000 in
set_option maxRecDepth 100000 in
theorem namesProc_any (a : Option Addr) (cap : Nat) (l : List (Int × Int)) (p : Int) (w : World) (hE : Ent w a l) (hl : l.length ≤ 1048576) :
    Calls Try.prog 16 #[.slice a l.length cap, .int .i64 p] w fun e w' => e = .returned (.bool (nm l p)) ∧ w' = w := by
  have HE : Aside (Ent w a l) := hE
  clear hE
  go_enter Try.func16, Try.ntmps16
  go_wp2
  go_loop [5] (fun i => ∃ k : Nat, k ≤ l.length ∧ i = .int .i64 k ∧ Aside (∀ j, j < k → (ent l j).1 ≠ p)) (fun i => l.length - (intOf i).toNat)
  case atStart => exact ⟨0, Nat.zero_le _, rfl, fun j hj => by omega⟩
  case round =>
    obtain ⟨k, hk, rfl, HO⟩ := hrel
    by_cases hlt : k < l.length
    · obtain ⟨b, o, rfl, hc0, hc1⟩ := HE.out.at k hlt
      have hltz : (k : Int) < (l.length : Int) := by omega
      have HK : Hid (k < l.length) := hlt
      clear hlt
      cases h2 : ((ent l k).1 == p) with
      | true =>
        have H1 : Hid (nm l p = true) := nm_true k HK.out (by simpa using h2)
        go_wp2
        go_ret
        exact ⟨ret_bool H1.out.symm, rfl⟩
      | false =>
        have H1 : Hid ((ent l k).1 ≠ p) := show (ent l k).1 ≠ p by simpa using h2
        go_wp2
        go_round
        case rel => exact ⟨k + 1, HK.out, by go_num, fun j hj => by
          by_cases e : j = k
          · subst e; exact H1.out
          · exact HO.out j (by omega)⟩
        case measure => have := HK.out; simp [intOf]; omega
    · have H1 : Hid (nm l p = false) := nm_false fun j hj => HO.out j (by omega)
      go_wp2
      go_ret
      exact ⟨ret_bool H1.out.symm, rfl⟩

set_option maxHeartbeats 1000000 in
set_option maxRecDepth 100000 in
theorem lastCount_any (a : Option Addr) (cap : Nat) (l : List (Int × Int)) (p : Int) (w : World) (hE : Ent w a l) (hl : l.length ≤ 1048576) :
    Calls Try.prog 11 #[.slice a l.length cap, .int .i64 p] w fun e w' => e = .returned (.int .i64 (lastC l p)) ∧ w' = w := by
  have HE : Aside (Ent w a l) := hE
  clear hE
  go_enter Try.func11, Try.ntmps11
  go_wp2
  go_loop [5] (fun i => ∃ k : Nat, k ≤ l.length ∧ i = .int .i64 ((k : Int) - 1) ∧ Aside (lcTo l p k = lastC l p)) (fun i => (intOf i + 1).toNat)
  case atStart => exact ⟨l.length, Nat.le_refl _, rfl, rfl⟩
  case round =>
    obtain ⟨k, hk, rfl, HO⟩ := hrel
    cases k with
    | zero =>
      have H1 : Hid (0 = lastC l p) := HO.out
      clear HO
      go_wp2
      go_ret
      exact ⟨ret_int H1.out, rfl⟩
    | succ k =>
      obtain ⟨b, o, rfl, hc0, hc1⟩ := HE.out.at k (by omega)
      have ek : ((k + 1 : Nat) : Int) - 1 = (k : Int) := by omega
      rw [ek]
      have hltz : (k : Int) < (l.length : Int) := by omega
      have HK : Hid (k < l.length) := show k < l.length by omega
      clear hk ek
      cases h2 : ((ent l k).1 == p) with
      | true =>
        have H1 : Hid ((ent l k).2 = lastC l p) := by
          have := HO.out
          unfold lcTo at this
          rw [if_pos (by simpa using h2)] at this
          exact this
        clear HO
        go_wp2
        go_ret
        exact ⟨ret_int H1.out, rfl⟩
      | false =>
        have H1 : Hid (lcTo l p k = lastC l p) := by
          have := HO.out
          unfold lcTo at this
          rw [if_neg (by simpa using h2)] at this
          exact this
        clear HO
        go_wp2
        go_round
        case rel => exact ⟨k, Nat.le_of_lt HK.out, rfl, H1.out⟩
        case measure => simp [intOf]
#print axioms lastCount_any
end Go.Proofs.Qxb6608749a.Law
