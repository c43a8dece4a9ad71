/- (Discount).Amount computes 'amt'. -/
import Derived.Test.Qxb6602690aRows
import Derived.Test.Qxb6602690aAmtPlain
import Derived.WalkKit
import Derived.ProofKit
import Derived.Below
namespace Go.Proofs.Qxb6602690a
open Go.ChangeShapes Go.WideShapes Go.ChangeAt Go.RowKit

theorem ret_int {k : IntKind} {a b : Int} (h : a = b) : Ending.returned (.int k a) = .returned (.int k b) := by rw [h]

set_option maxHeartbeats 400000 in
theorem amount_nil (typ : ByteArray) (v base : Int) (w : World) :
    Calls Try.prog 12 #[.agg #[.string typ, .int .i64 v, .pointer none], .int .i64 base] w fun e w' => e = .returned (.int .i64 (amt typ.toList v none base)) ∧ w' = w.alloc (.cells #[.string typ, .int .i64 v, .pointer none] 26) := by
  go_enter Try.func12, Try.ntmps12
  go_wp2
  all_goals go_ret
  all_goals refine ⟨ret_int ?_, rfl⟩
  all_goals (unfold amt capped low raw pct fxd; simp [*])
  all_goals omega

set_option maxHeartbeats 400000 in
theorem amount_cap (typ : ByteArray) (v base : Int) (w : World) (b off : Nat) (c : Int) (hb : b < w.heap.size) (hc : w.cell? ⟨b, off, none⟩ = some (.int .i64 c)) :
    Calls Try.prog 12 #[.agg #[.string typ, .int .i64 v, .pointer (some ⟨b, off, none⟩)], .int .i64 base] w fun e w' => e = .returned (.int .i64 (amt typ.toList v (some c) base)) ∧ w' = w.alloc (.cells #[.string typ, .int .i64 v, .pointer (some ⟨b, off, none⟩)] 26) := by
  go_enter Try.func12, Try.ntmps12
  go_wp2
  all_goals go_ret
  all_goals refine ⟨ret_int ?_, rfl⟩
  all_goals (unfold amt capped low raw pct fxd; simp [*])
  all_goals omega
end Go.Proofs.Qxb6602690a
