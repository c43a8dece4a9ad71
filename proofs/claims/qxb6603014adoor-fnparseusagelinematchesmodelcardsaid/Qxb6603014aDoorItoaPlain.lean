/- Plain laws: the decimal digits of a number, and what ParseInt and Fields make of them. No Go in sight. -/
import Derived.Lib.ParseIntB
import Derived.Lib.Fields
namespace Go.Proofs.Qxb6603014aDoor

def dig (u : Nat) : UInt8 := UInt8.ofNat (48 + u % 10)
/-- The digits of u, at most f of them. -/
def decD : Nat → Nat → List UInt8
  | 0, _ => []
  | f + 1, u => if u / 10 = 0 then [dig u] else decD f (u / 10) ++ [dig u]
/-- The same, as the loop lays them: ahead of what lies there. -/
def digs : Nat → Nat → List UInt8 → List UInt8
  | 0, _, acc => acc
  | f + 1, u, acc => if u / 10 = 0 then dig u :: acc else digs f (u / 10) (dig u :: acc)

theorem digs_is : ∀ (f u : Nat) (acc : List UInt8), digs f u acc = decD f u ++ acc
  | 0, _, _ => rfl
  | f + 1, u, acc => by
    unfold digs decD
    split
    · rfl
    · rw [digs_is f (u / 10) _]; simp
theorem dig_toNat (u : Nat) : (dig u).toNat = 48 + u % 10 := by
  unfold dig; rw [UInt8.toNat_ofNat']; omega
theorem decD_mem : ∀ (f u : Nat) (c : UInt8), c ∈ decD f u → 48 ≤ c.toNat ∧ c.toNat ≤ 57
  | 0, _, _, h => by cases h
  | f + 1, u, c, h => by
    unfold decD at h
    have hd := dig_toNat u
    split at h
    · rw [List.mem_singleton] at h; subst h; omega
    · rcases List.mem_append.1 h with h | h
      · exact decD_mem f _ c h
      · rw [List.mem_singleton] at h; subst h; omega
theorem decD_ne (f u : Nat) : decD (f + 1) u ≠ [] := by
  unfold decD; split <;> simp
theorem decD_len : ∀ (f u : Nat), (decD f u).length ≤ f
  | 0, _ => Nat.le_refl _
  | f + 1, u => by
    unfold decD
    have := decD_len f (u / 10)
    split <;> simp <;> omega
theorem parse_step (M a u : Nat) (ds : List UInt8) (h1 : a < 1844674407370955162) (h2 : a * 10 + u % 10 ≤ M) : Lib.parseUintM M a (dig u :: ds) = Lib.parseUintM M (a * 10 + u % 10) ds := by
  have hd := dig_toNat u
  rw [Lib.parseUintM, if_pos (by omega), if_neg (by omega), hd, if_neg (by omega)]
  congr 1; omega
/-- ParseUint reads the digits back. -/
theorem parse_decD (M : Nat) : ∀ (f u : Nat) (ds : List UInt8), u < 10 ^ (f + 1) → u ≤ M → u < 18446744073709551616 → Lib.parseUintM M 0 (decD (f + 1) u ++ ds) = Lib.parseUintM M u ds
  | 0, u, ds, h, hM, hB => by
    have e : u / 10 = 0 := by simp at h; omega
    rw [decD, if_pos e]
    show Lib.parseUintM M 0 (dig u :: ds) = _
    rw [parse_step M 0 u ds (by omega) (by omega)]
    congr 1; omega
  | f + 1, u, ds, h, hM, hB => by
    rw [decD]
    split
    · show Lib.parseUintM M 0 (dig u :: ds) = _
      rw [parse_step M 0 u ds (by omega) (by omega)]
      congr 1; omega
    · have hp : u / 10 < 10 ^ (f + 1) := by rw [Nat.div_lt_iff_lt_mul (by omega)]; rw [← Nat.pow_succ]; exact h
      rw [List.append_assoc, parse_decD M f (u / 10) _ hp (by omega) (by omega)]
      show Lib.parseUintM M (u / 10) (dig u :: ds) = _
      rw [parse_step M (u / 10) u ds (by omega) (by omega)]
      congr 1; omega

/-- What zzItoa hands back. -/
def mag (n : Int) : Nat := n.natAbs
def itoa (n : Int) : List UInt8 := if n < 0 then 45 :: decD 20 (mag n) else decD 20 (mag n)

theorem itoa_mem (n : Int) (c : UInt8) (h : c ∈ itoa n) : c.toNat = 45 ∨ (48 ≤ c.toNat ∧ c.toNat ≤ 57) := by
  unfold itoa at h
  split at h
  · rcases List.mem_cons.1 h with h | h
    · subst h; exact .inl rfl
    · exact .inr (decD_mem _ _ _ h)
  · exact .inr (decD_mem _ _ _ h)
theorem itoa_ne (n : Int) : itoa n ≠ [] := by
  unfold itoa; split
  · simp
  · exact decD_ne 19 _
theorem itoa_len (n : Int) : (itoa n).length ≤ 21 := by
  unfold itoa
  have := decD_len 20 (mag n)
  split <;> simp <;> omega
/-- ParseInt reads what zzItoa wrote. -/
theorem parse_itoa (n : Int) (h0 : -9223372036854775808 ≤ n) (h1 : n ≤ 9223372036854775807) : Lib.parseIntB 64 (itoa n) = .ok n := by
  have hm : mag n < 10 ^ (19 + 1) := by
    have : (10 : Nat) ^ (19 + 1) = 100000000000000000000 := by decide
    unfold mag; omega
  have hp : ∀ M, mag n ≤ M → Lib.parseUintM M 0 (decD 20 (mag n)) = .ok (mag n) := by
    intro M hM
    have := parse_decD M 19 (mag n) [] hm hM (by unfold mag; omega)
    rw [List.append_nil] at this
    rw [this]; rfl
  have e64 : (2 : Nat) ^ 64 - 1 = 18446744073709551615 := by decide
  have e63 : (2 : Nat) ^ (64 - 1) = 9223372036854775808 := by decide
  have hu : Lib.parseUintB 64 (decD 20 (mag n)) = .ok (mag n) := by
    unfold Lib.parseUintB
    rw [if_neg (decD_ne 19 _), e64]
    exact hp _ (by unfold mag; omega)
  unfold itoa
  by_cases hn : n < 0
  · rw [if_pos hn]
    unfold Lib.parseIntB
    have h45 : (45 : UInt8).toNat = 45 := rfl
    simp only [h45, or_true, if_true, hu, e63]
    rw [if_neg (by simp), if_neg (by unfold mag; omega)]
    congr 1
    unfold mag; omega
  · rw [if_neg hn]
    cases hc : decD 20 (mag n) with
    | nil => exact absurd hc (decD_ne 19 _)
    | cons c r =>
      have hcm := decD_mem 20 (mag n) c (by rw [hc]; simp)
      rw [hc] at hu
      unfold Lib.parseIntB
      simp only [e63]
      rw [if_neg (show ¬ (c.toNat = 43 ∨ c.toNat = 45) by omega), hu]
      simp only
      rw [if_neg (by unfold mag; omega), if_neg (by omega), if_neg (by omega)]
      congr 1
      unfold mag; omega

theorem isSp_not (c : UInt8) (h : c.toNat = 43 ∨ c.toNat = 45 ∨ (48 ≤ c.toNat ∧ c.toNat ≤ 57)) : Lib.isSp c = false := by
  have e : ∀ k : UInt8, k.toNat ≠ c.toNat → (c == k) = false := fun k hk => by
    rw [beq_eq_false_iff_ne]; intro e; exact hk (by rw [e])
  unfold Lib.isSp
  have t : ∀ k : Nat, k < 256 → (UInt8.ofNat k).toNat = k := fun k hk => by rw [UInt8.toNat_ofNat']; omega
  rw [e 9 (by rw [show (9 : UInt8).toNat = 9 from rfl]; omega), e 10 (by rw [show (10 : UInt8).toNat = 10 from rfl]; omega), e 11 (by rw [show (11 : UInt8).toNat = 11 from rfl]; omega),
    e 12 (by rw [show (12 : UInt8).toNat = 12 from rfl]; omega), e 13 (by rw [show (13 : UInt8).toNat = 13 from rfl]; omega), e 32 (by rw [show (32 : UInt8).toNat = 32 from rfl]; omega)]
  rfl
theorem fieldsGo_run : ∀ (a cur rest : List UInt8), (∀ c ∈ a, Lib.isSp c = false) → Lib.fieldsGo cur (a ++ rest) = Lib.fieldsGo (cur ++ a) rest
  | [], cur, rest, _ => by simp
  | c :: a, cur, rest, h => by
    rw [List.cons_append, Lib.fieldsGo_more cur c _ (h c (by simp)), fieldsGo_run a (cur ++ [c]) rest (fun d hd => h d (by simp [hd]))]
    simp
/-- The line that the law writes has two fields. -/
theorem fields_line (a b : List UInt8) (ha : ∀ c ∈ a, Lib.isSp c = false) (hb : ∀ c ∈ b, Lib.isSp c = false) (na : a ≠ []) (nb : b ≠ []) : Lib.fields (a ++ 32 :: (b ++ [10])) = [a, b] := by
  unfold Lib.fields
  rw [fieldsGo_run a [] _ ha, List.nil_append, Lib.fieldsGo_end a 32 _ (by decide) na, fieldsGo_run b [] [10] hb, List.nil_append, Lib.fieldsGo_end b 10 [] (by decide) nb]
  rfl
end Go.Proofs.Qxb6603014aDoor
