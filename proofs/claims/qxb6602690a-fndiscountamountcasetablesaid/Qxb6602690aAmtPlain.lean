/- Plain laws on what (Discount).Amount computes. No Go in sight. -/
import Derived.IntWalk
namespace Go.Proofs.Qxb6602690a
open Go.RowKit (wrap64)
open Go.IntWalk (wrap64_in)

def pct : List UInt8 := [112, 101, 114, 99, 101, 110, 116, 97, 103, 101]
def fxd : List UInt8 := [102, 105, 120, 101, 100]
/-- What Amount reckons ahead of the cap, wraps and all. -/
def raw (t : List UInt8) (v base : Int) : Int :=
  if (t == pct) = true then wrap64 (wrap64 (wrap64 (base.tdiv 100) * v) + wrap64 ((wrap64 (base % 100 * v)).tdiv 100)) else if (t == fxd) = true then v else 0
def capped (m : Option Int) (x : Int) : Int := match m with | none => x | some c => if c < x then c else x
def low (base x : Int) : Int := if base < x then base else x
def amt (t : List UInt8) (v : Int) (m : Option Int) (base : Int) : Int := if base ≤ 0 then 0 else low base (capped m (raw t v base))

theorem amt_zero (t : List UInt8) (v : Int) (m : Option Int) (base : Int) (h : base ≤ 0) : amt t v m base = 0 := by unfold amt; rw [if_pos h]
theorem amt_le (t : List UInt8) (v : Int) (m : Option Int) (base : Int) (h : 0 < base) : amt t v m base ≤ base := by
  unfold amt low; rw [if_neg (by omega)]; split <;> omega
theorem low_le (a x : Int) : low a x ≤ a ∧ low a x ≤ x := by unfold low; split <;> omega
theorem low_pos (a x : Int) (ha : 0 ≤ a) (hx : 0 ≤ x) : 0 ≤ low a x := by unfold low; split <;> omega
theorem capped_le (c x : Int) : capped (some c) x ≤ c := by unfold capped; simp only; split <;> omega
theorem amt_cap (t : List UInt8) (v : Int) (c : Int) (base : Int) (h : 0 < base) : amt t v (some c) base ≤ c := by
  unfold amt; rw [if_neg (by omega)]
  have := (low_le base (capped (some c) (raw t v base))).2
  have := capped_le c (raw t v base)
  omega
theorem raw_pct (v base : Int) (h : 0 < base) (hb : base ≤ 9223372036854775807) (h0 : 0 ≤ v) (h1 : v ≤ 100) :
    wrap64 (wrap64 (wrap64 (base.tdiv 100) * v) + wrap64 ((wrap64 (base % 100 * v)).tdiv 100)) = base * v / 100 := by
  have e1 : base.tdiv 100 = base / 100 := Int.tdiv_eq_ediv_of_nonneg (by omega)
  have q0 : 0 ≤ base / 100 := by omega
  have q1 : base / 100 * v ≤ base / 100 * 100 := Int.mul_le_mul_of_nonneg_left h1 q0
  have q2 : 0 ≤ base / 100 * v := Int.mul_nonneg q0 h0
  have r0 : 0 ≤ base % 100 := by omega
  have r1 : base % 100 * v ≤ base % 100 * 100 := Int.mul_le_mul_of_nonneg_left h1 r0
  have r2 : 0 ≤ base % 100 * v := Int.mul_nonneg r0 h0
  have s : base * v = 100 * (base / 100 * v) + base % 100 * v := by
    have : base = 100 * (base / 100) + base % 100 := by omega
    calc base * v = (100 * (base / 100) + base % 100) * v := by rw [← this]
      _ = 100 * (base / 100 * v) + base % 100 * v := by rw [Int.add_mul, Int.mul_assoc]
  have w1 : wrap64 (base / 100) = base / 100 := wrap64_in _ (by omega)
  have w2 : wrap64 (base / 100 * v) = base / 100 * v := wrap64_in _ (by omega)
  have w3 : wrap64 (base % 100 * v) = base % 100 * v := wrap64_in _ (by omega)
  have e2 : (base % 100 * v).tdiv 100 = base % 100 * v / 100 := Int.tdiv_eq_ediv_of_nonneg r2
  rw [e1, w1, w2, w3, e2, wrap64_in (base % 100 * v / 100) (by omega), wrap64_in _ (by omega), s]
  omega
theorem raw_pos (t : List UInt8) (v base : Int) (h : 0 < base) (hb : base ≤ 9223372036854775807) (h1 : (t == pct) = false ∨ 0 ≤ v ∧ v ≤ 100) (h2 : (t == fxd) = false ∨ 0 ≤ v) : 0 ≤ raw t v base := by
  unfold raw
  split
  · rename_i e
    rcases h1 with h1 | ⟨h3, h4⟩
    · rw [h1] at e; cases e
    · rw [raw_pct v base h hb h3 h4]; have := Int.mul_nonneg (show 0 ≤ base by omega) h3; omega
  · split
    · rename_i e
      rcases h2 with h2 | h2
      · rw [h2] at e; cases e
      · exact h2
    · omega
theorem capped_pos (m : Option Int) (x : Int) (hx : 0 ≤ x) (hm : ∀ c, m = some c → 0 ≤ c) : 0 ≤ capped m x := by
  unfold capped
  split
  · exact hx
  · rename_i c
    have := hm c rfl
    split <;> omega
theorem amt_pos (t : List UInt8) (v : Int) (m : Option Int) (base : Int) (h : 0 < base) (hb : base ≤ 9223372036854775807) (h1 : (t == pct) = false ∨ 0 ≤ v ∧ v ≤ 100) (h2 : (t == fxd) = false ∨ 0 ≤ v)
    (hm : ∀ c, m = some c → 0 ≤ c) : 0 ≤ amt t v m base := by
  unfold amt; rw [if_neg (by omega)]
  exact low_pos _ _ (by omega) (capped_pos _ _ (raw_pos t v base h hb h1 h2) hm)
end Go.Proofs.Qxb6602690a
