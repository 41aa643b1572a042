/-
  errors.New, (*url.Error).Unwrap, errors.Unwrap: contracts.
-/
import Derived.Test.Qxb6605763aRows
import Derived.WalkKit
import Derived.ProofKit
import Derived.WalkLawsBesides
import Derived.Outline
namespace Go.Proofs.Qxb6605763a.Chain
open Go.ChangeShapes Go.WideShapes Go.ChangeAt Go.RowKit

/-- An error of this program's three makes: its dynamic type and its block. -/
def enc (x : Nat × Nat) : Value := .iface x.1 (.pointer (some ⟨x.2, 0, none⟩))

theorem new_any (m : ByteArray) (w : World) :
    Calls Try.prog 25 #[.string m] w fun e w' => e = .returned (enc (50, w.heap.size)) ∧ w' = w.alloc (.cells #[.string m] 52) := by
  go_enter Try.func25, Try.ntmps25
  go_wp2
  go_ret
  exact ⟨rfl, rfl⟩

theorem urlUnwrap_any (b : Nat) (q : Value) (w : World) (h : w.cell? ⟨b, 2, none⟩ = some q) :
    Calls Try.prog 49 #[.pointer (some ⟨b, 0, none⟩)] w fun e w' => e = .returned q ∧ w' = w := by
  go_enter Try.func49, Try.ntmps49
  go_wp2
  go_ret
  exact ⟨rfl, rfl⟩

theorem assert_url (a : Addr) (w : World) : (Instr.typeAssert (.iface 41 (.pointer (some a))) 36 57 true).run Try.prog w = .ok (.tuple #[.iface 41 (.pointer (some a)), .bool true]) w := by kernel_rfl
theorem m50 : (Try.prog.info? 50).map (fun i => (i.methods.any fun m => m.name == "Unwrap" && m.sig == 59)) = some false := by kernel_rfl
theorem m53 : (Try.prog.info? 53).map (fun i => (i.methods.any fun m => m.name == "Unwrap" && m.sig == 59)) = some false := by kernel_rfl
theorem missing_one (ms : Array Method) (h : (ms.any fun m => m.name == "Unwrap" && m.sig == 59) = false) : ∃ m, Instr.missingMethod #[("Unwrap", 59)] ms = some m := by
  unfold Instr.missingMethod
  simp only [List.filter_cons, h, Bool.not_false, if_true, List.filter_nil, List.map_cons, List.map_nil]
  cases hc : ("Unwrap".contains '.') with
  | true => simp [List.partition, List.partition.loop, hc, Instr.least]
  | false => simp [List.partition, List.partition.loop, hc, Instr.least]
theorem assert_no (t : TypeId) (i : TypeInfo) (x : Value) (w : World) (hi : Try.prog.info? t = some i) (h : (i.methods.any fun m => m.name == "Unwrap" && m.sig == 59) = false) :
    (Instr.typeAssert (.iface t x) 36 57 true).run Try.prog w = .ok (.tuple #[.nilIface, .bool false]) w := by
  obtain ⟨m, hm⟩ := missing_one i.methods h
  simp [Instr.typeAssert, run_underlying Try.underlying57, typeInfo, hi, hm, Try.zeroValue57]
theorem assert_new (a : Addr) (w : World) : (Instr.typeAssert (.iface 50 (.pointer (some a))) 36 57 true).run Try.prog w = .ok (.tuple #[.nilIface, .bool false]) w := by
  obtain ⟨i, hi, hm⟩ := Option.map_eq_some_iff.1 m50
  exact assert_no 50 i _ w hi hm
theorem assert_join (a : Addr) (w : World) : (Instr.typeAssert (.iface 53 (.pointer (some a))) 36 57 true).run Try.prog w = .ok (.tuple #[.nilIface, .bool false]) w := by
  obtain ⟨i, hi, hm⟩ := Option.map_eq_some_iff.1 m53
  exact assert_no 53 i _ w hi hm
theorem method_url (a : Addr) (w : World) : (method 177 41 (.pointer (some a)) "Unwrap").run Try.prog w = .ok (49, .pointer (some a)) w := by kernel_rfl

theorem unwrap_new (b : Nat) (w : World) :
    Calls Try.prog 31 #[enc (50, b)] w fun e w' => e = .returned .nilIface ∧ w' = w := by
  unfold enc
  have hta := assert_new ⟨b, 0, none⟩
  go_enter Try.func31, Try.ntmps31
  go_wp2
  go_ret
  exact ⟨rfl, rfl⟩
theorem unwrap_join (b : Nat) (w : World) :
    Calls Try.prog 31 #[enc (53, b)] w fun e w' => e = .returned .nilIface ∧ w' = w := by
  unfold enc
  have hta := assert_join ⟨b, 0, none⟩
  go_enter Try.func31, Try.ntmps31
  go_wp2
  go_ret
  exact ⟨rfl, rfl⟩

theorem unwrap_url (b : Nat) (q : Value) (w : World) (h : w.cell? ⟨b, 2, none⟩ = some q) :
    Calls Try.prog 31 #[enc (41, b)] w fun e w' => e = .returned q ∧ w' = w := by
  have hU := urlUnwrap_any b q w h
  unfold enc
  have hta := assert_url ⟨b, 0, none⟩
  have hmt := method_url ⟨b, 0, none⟩
  go_enter Try.func31, Try.ntmps31
  go_wp2_with (go_at_call 49; refine hU.mono ?_; rintro e w' ⟨rfl, rfl⟩)
  go_ret
  exact ⟨rfl, rfl⟩

/-- 'chain(err)': the parameter is boxed; the function value captures the box. -/
theorem chain_any (v : Value) (hv : v = .nilIface ∨ ∃ x, v = enc x) (w : World) :
    Calls Try.prog 24 #[v] w fun e w' => e = .returned (.func (.func 30) #[] #[.pointer (some ⟨w.heap.size, 0, none⟩)]) ∧ w' = w.alloc (.cells #[v] 36) := by
  rcases hv with rfl | ⟨x, rfl⟩
  · go_enter Try.func24, Try.ntmps24
    go_wp2
    go_ret
    exact ⟨rfl, rfl⟩
  · unfold enc
    go_enter Try.func24, Try.ntmps24
    go_wp2
    go_ret
    exact ⟨rfl, rfl⟩
#print axioms unwrap_url
end Go.Proofs.Qxb6605763a.Chain
