/-
  ZZchainLenNil, ZZchainLenNew, ZZchainLenURLNil, ZZchainLenURL, ZZchainLenURLURL; the law FnChainYieldsEachUnwrap.
-/
import Derived.Test.Qxb6605763aChainSeq
namespace Go.Proofs.Qxb6605763a.Chain
open Go.RowKit

theorem zznil (w : World) : Calls Try.prog 14 #[] w fun e w' => e = .returned (.int .i64 0) ∧ Below w.heap.size w w' := by
  go_enter Try.func14, Try.ntmps14
  go_wp2_with fail
  refine (chain_any _ (.inl rfl) _).mono ?_
  rintro e w1 ⟨rfl, rfl⟩
  go_wp2_with fail
  refine (collect_any w.heap.size w.heap.size .nilIface [] _ (by simp) (by simp) (by simp) (by simp) rfl).mono ?_
  rintro e w2 ⟨⟨a, cap, rfl⟩, hb⟩
  go_wp2
  go_ret
  exact ⟨rfl, ((Below.refl _ w).alloc (Nat.le_refl _) _).trans (hb.mono (by simp))⟩

theorem zznew (m : ByteArray) (w : World) : Calls Try.prog 15 #[.string m] w fun e w' => e = .returned (.int .i64 1) ∧ Below w.heap.size w w' := by
  go_enter Try.func15, Try.ntmps15
  go_wp2_with fail
  refine (new_any _ _).mono ?_
  rintro e w0 ⟨rfl, rfl⟩
  go_wp2_with fail
  refine (chain_any _ (.inr ⟨_, rfl⟩) _).mono ?_
  rintro e w1 ⟨rfl, rfl⟩
  go_wp2_with fail
  refine (collect_any (w.heap.size + 1) (w.heap.size + 1) (enc (50, w.heap.size)) [(50, w.heap.size)] _ (by simp) (by simp) (by simp) (by simp) ⟨rfl, by simp, .inl ⟨rfl, rfl⟩⟩).mono ?_
  rintro e w2 ⟨⟨a, cap, rfl⟩, hb⟩
  go_wp2
  go_ret
  exact ⟨rfl, (((Below.refl _ w).alloc (Nat.le_refl _) _).alloc (by simp) _).trans (hb.mono (by simp; omega))⟩

theorem zzurlnil (op u : ByteArray) (w : World) : Calls Try.prog 16 #[.string op, .string u] w fun e w' => e = .returned (.int .i64 1) ∧ Below w.heap.size w w' := by
  go_enter Try.func16, Try.ntmps16
  go_wp2_with fail
  refine (chain_any _ (.inr ⟨(41, w.heap.size), rfl⟩) _).mono ?_
  rintro e w1 ⟨rfl, rfl⟩
  go_wp2_with fail
  refine (collect_any (w.heap.size + 1) (w.heap.size + 1) (enc (41, w.heap.size)) [(41, w.heap.size)] _ (by simp) (by simp) (by simp) (by (unfold enc; go_simp)) ⟨rfl, by simp, .inr (.inr ⟨rfl, .nilIface, by simp, rfl⟩)⟩).mono ?_
  rintro e w2 ⟨⟨a, cap, rfl⟩, hb⟩
  go_wp2
  go_ret
  exact ⟨rfl, (((Below.refl _ w).alloc (Nat.le_refl _) _).alloc (by simp) _).trans (hb.mono (by simp; omega))⟩

theorem new_plain (m : ByteArray) (w : World) :
    Calls Try.prog 25 #[.string m] w fun e w' => e = .returned (.iface 50 (.pointer (some ⟨w.heap.size, 0, none⟩))) ∧ w' = w.alloc (.cells #[.string m] 52) := new_any m w

theorem zzurl (op u m : ByteArray) (w : World) : Calls Try.prog 17 #[.string op, .string u, .string m] w fun e w' => e = .returned (.int .i64 2) ∧ Below w.heap.size w w' := by
  go_enter Try.func17, Try.ntmps17
  go_wp2_with fail
  refine (new_plain _ _).mono ?_
  rintro e w0 ⟨rfl, rfl⟩
  go_wp2_with fail
  refine (chain_any _ (.inr ⟨(41, w.heap.size + 1), rfl⟩) _).mono ?_
  rintro e w1 ⟨rfl, rfl⟩
  go_wp2_with fail
  refine (collect_any (w.heap.size + 2) (w.heap.size + 2) (enc (41, w.heap.size + 1)) [(41, w.heap.size + 1), (50, w.heap.size)] _ (by simp) (by simp) (by simp) (by (unfold enc; go_simp)) ⟨rfl, by simp, .inr (.inr ⟨rfl, enc (50, w.heap.size), by (unfold enc; go_simp), ⟨rfl, by simp, .inl ⟨rfl, rfl⟩⟩⟩)⟩).mono ?_
  rintro e w2 ⟨⟨a, cap, rfl⟩, hb⟩
  go_wp2
  go_ret
  exact ⟨rfl, ((((Below.refl _ w).alloc (Nat.le_refl _) _).alloc (by simp) _).alloc (by simp; omega) _).trans (hb.mono (by simp; omega))⟩

theorem zzurlurl (op u m : ByteArray) (w : World) : Calls Try.prog 18 #[.string op, .string u, .string m] w fun e w' => e = .returned (.int .i64 3) ∧ Below w.heap.size w w' := by
  go_enter Try.func18, Try.ntmps18
  go_wp2_with fail
  refine (new_plain _ _).mono ?_
  rintro e w0 ⟨rfl, rfl⟩
  go_wp2_with fail
  refine (chain_any _ (.inr ⟨(41, w.heap.size + 2), rfl⟩) _).mono ?_
  rintro e w1 ⟨rfl, rfl⟩
  go_wp2_with fail
  refine (collect_any (w.heap.size + 3) (w.heap.size + 3) (enc (41, w.heap.size + 2)) [(41, w.heap.size + 2), (41, w.heap.size + 1), (50, w.heap.size)] _ (by simp) (by simp) (by simp) (by (unfold enc; go_simp)) ⟨rfl, by simp, .inr (.inr ⟨rfl, enc (41, w.heap.size + 1), by (unfold enc; go_simp), ⟨rfl, by simp, .inr (.inr ⟨rfl, enc (50, w.heap.size), by (unfold enc; go_simp), ⟨rfl, by simp, .inl ⟨rfl, rfl⟩⟩⟩)⟩⟩)⟩).mono ?_
  rintro e w2 ⟨⟨a, cap, rfl⟩, hb⟩
  go_wp2
  go_ret
  exact ⟨rfl, (((((Below.refl _ w).alloc (Nat.le_refl _) _).alloc (by simp) _).alloc (by simp; omega) _).alloc (by simp; omega) _).trans (hb.mono (by simp; omega))⟩

end Go.Proofs.Qxb6605763a.Chain
