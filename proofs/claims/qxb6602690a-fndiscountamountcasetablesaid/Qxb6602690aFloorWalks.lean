/- zzMulFull, zzDiv128By100, zzFloorPercent and zzMin, walked. -/
import Derived.Test.Qxb6602690aAmtWalks
import Derived.Test.Qxb6602690aFloorPlain
namespace Go.Proofs.Qxb6602690a
open Go.ChangeShapes Go.WideShapes Go.ChangeAt Go.RowKit
set_option linter.unusedVariables false

set_option maxHeartbeats 400000 in
theorem mulFull_any (a b : Int) (w : World) (ha : 0 ≤ a) (hb : 0 ≤ b) :
    Calls Try.prog 27 #[.int .u64 a, .int .u64 b] w fun e w' => e = .returned (.tuple #[.int .u64 (mulHi a b), .int .u64 (mulLo a b)]) ∧ w' = w := by
  go_enter Try.func27, Try.ntmps27
  go_wp2
  go_ret2
  exact ⟨rfl, rfl⟩
set_option maxHeartbeats 400000 in
theorem div100_any (a b : Int) (w : World) (ha : 0 ≤ a) (ha' : a < 100) (hb : 0 ≤ b) :
    Calls Try.prog 28 #[.int .u64 a, .int .u64 b] w fun e w' => e = .returned (.int .u64 (div100 a b)) ∧ w' = w := by
  go_enter Try.func28, Try.ntmps28
  go_wp2
  go_ret
  exact ⟨rfl, rfl⟩
set_option maxHeartbeats 400000 in
theorem floor_any (a b : Int) (w : World) (ha : 0 ≤ a) (ha' : a ≤ 9223372036854775807) (hb : 0 ≤ b) (hb' : b ≤ 100) :
    Calls Try.prog 13 #[.int .i64 a, .int .i64 b] w fun e w' => e = .returned (.int .i64 (a * b / 100)) ∧ w' = w := by
  obtain ⟨_, i0, i1, i2, _⟩ := mul_is a b ha ha' hb hb'
  have fl : Hid (div100 (mulHi a b) (mulLo a b) = a * b / 100) := floor_is a b ha ha' hb hb'
  have fr := floor_range a b ha hb hb'
  have hm : Hid (∀ w, Calls Try.prog 27 #[.int .u64 a, .int .u64 b] w fun e w' => e = .returned (.tuple #[.int .u64 (mulHi a b), .int .u64 (mulLo a b)]) ∧ w' = w) := fun w => mulFull_any a b w ha hb
  have hd : Hid (∀ w, Calls Try.prog 28 #[.int .u64 (mulHi a b), .int .u64 (mulLo a b)] w fun e w' => e = .returned (.int .u64 (a * b / 100)) ∧ w' = w) := by
    intro w; have := div100_any (mulHi a b) (mulLo a b) w i0 i1 i2; rw [fl.out] at this; exact this
  generalize mulHi a b = hi at *
  generalize mulLo a b = lo at *
  generalize a * b / 100 = q at *
  clear fl
  go_enter Try.func13, Try.ntmps13
  go_wp2_with (first | (go_at_call 27; refine (hm.out _).mono ?_; rintro e w' ⟨rfl, rfl⟩) | (go_at_call 28; refine (hd.out _).mono ?_; rintro e w' ⟨rfl, rfl⟩))
  go_ret
  exact ⟨rfl, rfl⟩
def gmin (a b : Int) : Int := if a < b then a else b
theorem min_any (a b : Int) (w : World) :
    Calls Try.prog 14 #[.int .i64 a, .int .i64 b] w fun e w' => e = .returned (.int .i64 (gmin a b)) ∧ w' = w := by
  unfold gmin
  by_cases h : a < b
  · rw [if_pos h]
    go_enter Try.func14, Try.ntmps14
    go_wp2
    go_ret
    exact ⟨rfl, rfl⟩
  · rw [if_neg h]
    go_enter Try.func14, Try.ntmps14
    go_wp2
    go_ret
    exact ⟨rfl, rfl⟩
theorem bytes11 (typ : ByteArray) (v base : Int) (p : Option Addr) (w : World) (hs : (typ.size : Int) ≤ 1048576) :
    Calls Try.prog 11 #[.string typ, .int .i64 v, .pointer p, .int .i64 base] w fun e w' => e = .returned (.bool true) ∧ w' = w := by
  go_enter Try.func11, Try.ntmps11
  go_wp2
  go_ret
  exact ⟨rfl, rfl⟩
end Go.Proofs.Qxb6602690a
