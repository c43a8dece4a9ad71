/- FnDiscountAmountWithinBaseAndCap returns true at every input. -/
import Derived.Test.Qxb6602690aWithinWalks
import Derived.OpenShut
namespace Go.Proofs.Qxb6602690a
open Go.ChangeShapes Go.WideShapes Go.ChangeAt Go.RowKit
set_option linter.unusedVariables false

theorem bytes15_no (typ : ByteArray) (v base : Int) (p : Option Addr) (w : World) (h0 : typ.size ≤ maxLen) (hs : 1048576 < (typ.size : Int)) :
    Calls Try.prog 4 #[.string typ, .int .i64 v, .pointer p, .int .i64 base] w fun e w' => e = .returned (.bool true) ∧ Below w.heap.size w w' := by
  unfold maxLen at h0
  go_enter Try.func4, Try.ntmps4
  go_wp2
  go_ret
  exact ⟨rfl, Below.refl _ _⟩

set_option maxHeartbeats 400000 in
theorem within_low_nil (typ : ByteArray) (v base : Int) (w : World) (hlen : (typ.size : Int) ≤ 1048576) (hb : base ≤ 0)
    (H : Hid (∀ w, Calls Try.prog 12 #[.agg #[.string typ, .int .i64 v, .pointer none], .int .i64 base] w fun e w' => e = .returned (.int .i64 0) ∧ w' = w.alloc (.cells #[.string typ, .int .i64 v, .pointer none] 26))) :
    Calls Try.prog 4 #[.string typ, .int .i64 v, .pointer none, .int .i64 base] w fun e w' => e = .returned (.bool true) ∧ Below w.heap.size w w' := by
  have hcl : Hid (∀ o1 o2, Below w.heap.size w ((w.alloc o1).alloc o2)) := fun o1 o2 => ((Below.refl _ _).alloc (Nat.le_refl _) _).alloc (by simp) _
  go_enter Try.func4, Try.ntmps4
  go_wp2_with (first | (go_at_call 15; refine (bytes15 _ _ _ _ _ (by omega)).mono ?_; rintro e w' ⟨rfl, rfl⟩) | (go_at_call 12; refine (H.out _).mono ?_; rintro e w' ⟨rfl, rfl⟩))
  go_ret
  exact ⟨rfl, hcl.out _ _⟩

set_option maxHeartbeats 400000 in
theorem within_low_ptr (typ : ByteArray) (v base : Int) (w : World) (b off : Nat) (c : Int) (hc : w.cell? ⟨b, off, none⟩ = some (.int .i64 c)) (hlen : (typ.size : Int) ≤ 1048576) (hb : base ≤ 0)
    (H : Hid (∀ w b off, b < w.heap.size → w.cell? ⟨b, off, none⟩ = some (.int .i64 c) → Calls Try.prog 12 #[.agg #[.string typ, .int .i64 v, .pointer (some ⟨b, off, none⟩)], .int .i64 base] w fun e w' => e = .returned (.int .i64 0) ∧ w' = w.alloc (.cells #[.string typ, .int .i64 v, .pointer (some ⟨b, off, none⟩)] 26))) :
    Calls Try.prog 4 #[.string typ, .int .i64 v, .pointer (some ⟨b, off, none⟩), .int .i64 base] w fun e w' => e = .returned (.bool true) ∧ Below w.heap.size w w' := by
  have hcl : Hid (∀ o1 o2 o3, Below w.heap.size w (((w.alloc o1).alloc o2).alloc o3)) := fun o1 o2 o3 => (((Below.refl _ _).alloc (Nat.le_refl _) _).alloc (by simp) _).alloc (by simp; omega) _
  go_enter Try.func4, Try.ntmps4
  go_wp2_with (first | (go_at_call 15; refine (bytes15 _ _ _ _ _ (by omega)).mono ?_; rintro e w' ⟨rfl, rfl⟩) | (go_at_call 12; refine (H.out _ _ _ (by simp; omega) (by simp)).mono ?_; rintro e w' ⟨rfl, rfl⟩))
  go_ret
  exact ⟨rfl, hcl.out _ _ _⟩

theorem within_nil_any (typ : ByteArray) (v base : Int) (w : World) (h0 : typ.size ≤ maxLen) (hb : base ≤ 9223372036854775807) :
    Calls Try.prog 4 #[.string typ, .int .i64 v, .pointer none, .int .i64 base] w fun e w' => e = .returned (.bool true) ∧ Below w.heap.size w w' := by
  by_cases hlen : (typ.size : Int) ≤ 1048576
  · by_cases hp : base ≤ 0
    · have H := amount_nil typ v base
      rw [amt_zero _ _ _ _ hp] at H
      exact within_low_nil typ v base w hlen hp H
    · refine within_nil typ v base _ w hlen (by omega) (amount_nil typ v base) (amt_le _ _ _ _ (by omega)) ?_
      rcases within_cases typ v none base (by omega) hb with h | ⟨c, h, _⟩ | h | h
      · exact .inl h
      · cases h
      · exact .inr (.inl h)
      · exact .inr (.inr h)
  · exact bytes15_no typ v base none w h0 (by omega)

theorem within_ptr_any (typ : ByteArray) (v base : Int) (w : World) (b off : Nat) (c : Int) (hc : w.cell? ⟨b, off, none⟩ = some (.int .i64 c)) (h0 : typ.size ≤ maxLen) (hb : base ≤ 9223372036854775807) :
    Calls Try.prog 4 #[.string typ, .int .i64 v, .pointer (some ⟨b, off, none⟩), .int .i64 base] w fun e w' => e = .returned (.bool true) ∧ Below w.heap.size w w' := by
  by_cases hlen : (typ.size : Int) ≤ 1048576
  · have H := fun w b off h1 h2 => amount_cap typ v base w b off c h1 h2
    by_cases hp : base ≤ 0
    · rw [amt_zero _ _ _ _ hp] at H
      exact within_low_ptr typ v base w b off c hc hlen hp H
    · refine within_cap typ v base _ w b off c hc hlen (by omega) H (amt_le _ _ _ _ (by omega)) (amt_cap _ _ _ _ (by omega)) ?_
      rcases within_cases typ v (some c) base (by omega) hb with h | ⟨c', h, h'⟩ | h | h
      · exact .inl h
      · cases h; exact .inr (.inl h')
      · exact .inr (.inr (.inl h))
      · exact .inr (.inr (.inr h))
  · exact bytes15_no typ v base _ w h0 (by omega)
end Go.Proofs.Qxb6602690a
