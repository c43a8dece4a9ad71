/- Plain laws: the 128-bit product and its quotient by 100, limb by limb, as the walk spells them. No Go in sight. -/
import Derived.IntWalk
import Derived.Laws.BitsAllLaws
namespace Go.Proofs.Qxb6602690a

theorem and32 (x : Int) (h0 : 0 ≤ x) (h1 : x < 18446744073709551616) : bits .and .u64 x 4294967295 = x % 4294967296 := by
  rw [u64_and x 4294967295 h0 h1 (by omega) (by omega)]
  have e : x.toNat &&& (4294967295 : Int).toNat = x.toNat % 4294967296 := Nat.and_two_pow_sub_one_eq_mod x.toNat 32
  rw [e]; omega
theorem or32 (x y : Int) (h0 : 0 ≤ x) (h1 : x < 4294967296) (h2 : 0 ≤ y) (h3 : y < 4294967296) : bits .or .u64 (y * 4294967296) x = y * 4294967296 + x := by
  rw [u64_or _ _ (by omega) (by omega) h0 (by omega)]
  rw [nat_join 32 _ _ (by omega) (by omega)]
  omega
theorem or32' (x y : Int) (h0 : 0 ≤ x) (h1 : x < 4294967296) (h2 : 0 ≤ y) (h3 : y < 4294967296) : bits .or .u64 x (y * 4294967296) = y * 4294967296 + x := by
  rw [u64_or _ _ h0 (by omega) (by omega) (by omega), Nat.or_comm]
  rw [nat_join 32 _ _ (by omega) (by omega)]
  omega
theorem wr (x : Int) (h0 : 0 ≤ x) (h1 : x < 18446744073709551616) : IntKind.u64.wrap x = x := IntWalk.u64_in x (by omega)

def cur1 (a : Int) : Int := bits .or .u64 (a / 4294967296 % 100 * 4294967296) (bits .and .u64 a 4294967295)
def cur2 (a b : Int) : Int := bits .or .u64 (IntKind.u64.wrap ((cur1 a).tmod 100 * 4294967296)) (b / 4294967296)
def cur3 (a b : Int) : Int := bits .or .u64 (IntKind.u64.wrap ((cur2 a b).tmod 100 * 4294967296)) (bits .and .u64 b 4294967295)
def div100 (a b : Int) : Int := bits .or .u64 (IntKind.u64.wrap (IntKind.u64.wrap ((cur2 a b).tdiv 100) * 4294967296)) (IntKind.u64.wrap ((cur3 a b).tdiv 100))

theorem cur1_is (a : Int) (h0 : 0 ≤ a) (h1 : a < 100) : cur1 a = a := by
  unfold cur1
  rw [and32 a h0 (by omega), or32 _ _ (by omega) (by omega) (by omega) (by omega)]
  omega
theorem cur2_is (a b : Int) (h0 : 0 ≤ a) (h1 : a < 100) (h2 : 0 ≤ b) (h3 : b < 18446744073709551616) : cur2 a b = a * 4294967296 + b / 4294967296 := by
  unfold cur2
  rw [cur1_is a h0 h1, Int.tmod_eq_emod_of_nonneg h0, wr _ (by omega) (by omega), or32 _ _ (by omega) (by omega) (by omega) (by omega)]
  omega
theorem cur3_is (a b : Int) (h0 : 0 ≤ a) (h1 : a < 100) (h2 : 0 ≤ b) (h3 : b < 18446744073709551616) : cur3 a b = (a * 4294967296 + b / 4294967296) % 100 * 4294967296 + b % 4294967296 := by
  unfold cur3
  rw [cur2_is a b h0 h1 h2 h3, and32 b h2 h3, Int.tmod_eq_emod_of_nonneg (by omega), wr _ (by omega) (by omega), or32 _ _ (by omega) (by omega) (by omega) (by omega)]
theorem div100_is (a b : Int) (h0 : 0 ≤ a) (h1 : a < 100) (h2 : 0 ≤ b) (h3 : b < 18446744073709551616) : div100 a b = (a * 18446744073709551616 + b) / 100 := by
  unfold div100
  rw [cur2_is a b h0 h1 h2 h3, cur3_is a b h0 h1 h2 h3, Int.tdiv_eq_ediv_of_nonneg (by omega), Int.tdiv_eq_ediv_of_nonneg (by omega),
    wr ((a * 4294967296 + b / 4294967296) / 100) (by omega) (by omega), wr (_ * 4294967296) (by omega) (by omega), wr (_ / 100) (by omega) (by omega), or32 _ _ (by omega) (by omega) (by omega) (by omega)]
  omega

def mul01 (a b : Int) : Int := IntKind.u64.wrap (bits .and .u64 a 4294967295 * (b / 4294967296))
def mul10 (a b : Int) : Int := IntKind.u64.wrap (a / 4294967296 * bits .and .u64 b 4294967295)
def mul00 (a b : Int) : Int := IntKind.u64.wrap (bits .and .u64 a 4294967295 * bits .and .u64 b 4294967295)
def mul11 (a b : Int) : Int := IntKind.u64.wrap (a / 4294967296 * (b / 4294967296))
def mid (a b : Int) : Int := IntKind.u64.wrap (IntKind.u64.wrap (mul00 a b / 4294967296 + bits .and .u64 (mul01 a b) 4294967295) + bits .and .u64 (mul10 a b) 4294967295)
def mulLo (a b : Int) : Int := bits .or .u64 (bits .and .u64 (mul00 a b) 4294967295) (IntKind.u64.wrap (mid a b * 4294967296))
def mulHi (a b : Int) : Int := IntKind.u64.wrap (IntKind.u64.wrap (IntKind.u64.wrap (mul11 a b + mul01 a b / 4294967296) + mul10 a b / 4294967296) + mid a b / 4294967296)

theorem prod_lt (x b m : Int) (h0 : 0 ≤ x) (h1 : x ≤ m) (h2 : 0 ≤ b) (h3 : b ≤ 100) : 0 ≤ x * b ∧ x * b ≤ m * 100 := by
  refine ⟨Int.mul_nonneg h0 h2, ?_⟩
  have p : x * b ≤ x * 100 := Int.mul_le_mul_of_nonneg_left h3 h0
  omega
theorem mul_is (a b : Int) (h0 : 0 ≤ a) (h1 : a ≤ 9223372036854775807) (h2 : 0 ≤ b) (h3 : b ≤ 100) :
    mulHi a b * 18446744073709551616 + mulLo a b = a * b ∧ 0 ≤ mulHi a b ∧ mulHi a b < 100 ∧ 0 ≤ mulLo a b ∧ mulLo a b < 18446744073709551616 := by
  have b0 : bits .and .u64 b 4294967295 = b := by rw [and32 b h2 (by omega)]; omega
  have b1 : b / 4294967296 = 0 := by omega
  have a0 := and32 a h0 (by omega)
  have e01 : mul01 a b = 0 := by unfold mul01; rw [b1, Int.mul_zero]; exact wr 0 (by omega) (by omega)
  have e11 : mul11 a b = 0 := by unfold mul11; rw [b1, Int.mul_zero]; exact wr 0 (by omega) (by omega)
  have p0 := prod_lt (a % 4294967296) b 4294967295 (by omega) (by omega) h2 h3
  have p1 := prod_lt (a / 4294967296) b 2147483647 (by omega) (by omega) h2 h3
  have e00 : mul00 a b = a % 4294967296 * b := by unfold mul00; rw [a0, b0]; exact wr _ (by omega) (by omega)
  have e10 : mul10 a b = a / 4294967296 * b := by unfold mul10; rw [b0]; exact wr _ (by omega) (by omega)
  have s : a * b = a / 4294967296 * b * 4294967296 + a % 4294967296 * b := by
    have : a = a / 4294967296 * 4294967296 + a % 4294967296 := by omega
    have q : a / 4294967296 * 4294967296 * b = a / 4294967296 * b * 4294967296 := by rw [Int.mul_assoc, Int.mul_comm 4294967296 b, ← Int.mul_assoc]
    calc a * b = (a / 4294967296 * 4294967296 + a % 4294967296) * b := by rw [← this]
      _ = _ := by rw [Int.add_mul, q]
  rw [s]
  generalize a / 4294967296 * b = x at *
  generalize a % 4294967296 * b = y at *
  have em : mid a b = y / 4294967296 + x % 4294967296 := by
    unfold mid
    rw [e00, e01, e10, and32 0 (by omega) (by omega), and32 x (by omega) (by omega), wr (y / 4294967296 + 0 % 4294967296) (by omega) (by omega), wr _ (by omega) (by omega)]
    omega
  have ew : IntKind.u64.wrap (mid a b * 4294967296) = mid a b % 4294967296 * 4294967296 := by
    rw [em]; simp only [IntKind.wrap, IntKind.bits, IntKind.signed]; simp; omega
  have el : mulLo a b = mid a b % 4294967296 * 4294967296 + y % 4294967296 := by
    unfold mulLo
    rw [e00, ew, and32 y (by omega) (by omega), or32' _ _ (by omega) (by omega) (by omega) (by omega)]
  have eh : mulHi a b = x / 4294967296 + mid a b / 4294967296 := by
    unfold mulHi
    rw [e11, e01, e10, wr (0 + 0 / 4294967296) (by omega) (by omega), wr (_ + x / 4294967296) (by omega) (by omega), wr _ (by omega) (by omega)]
    omega
  rw [el, eh, em]
  omega
/-- What zzFloorPercent computes: the floor of the exact quotient. -/
theorem floor_is (a b : Int) (h0 : 0 ≤ a) (h1 : a ≤ 9223372036854775807) (h2 : 0 ≤ b) (h3 : b ≤ 100) : div100 (mulHi a b) (mulLo a b) = a * b / 100 := by
  obtain ⟨e, i0, i1, i2, i3⟩ := mul_is a b h0 h1 h2 h3
  rw [div100_is _ _ i0 i1 i2 i3, e]
theorem floor_range (a b : Int) (h0 : 0 ≤ a) (h2 : 0 ≤ b) (h3 : b ≤ 100) : 0 ≤ a * b / 100 ∧ a * b / 100 ≤ a := by
  have p := Int.mul_nonneg h0 h2
  have q : a * b ≤ a * 100 := Int.mul_le_mul_of_nonneg_left h3 h0
  omega
end Go.Proofs.Qxb6602690a
