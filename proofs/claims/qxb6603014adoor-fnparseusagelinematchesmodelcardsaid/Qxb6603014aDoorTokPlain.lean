/- Plain laws: a signed decimal text, read digit by digit and by its text's order. No Go in sight. -/
import Derived.Lib.ParseIntB
import Derived.Lib.Fields
namespace Go.Proofs.Qxb6603014aDoor

def isD (c : UInt8) : Bool := decide (48 ≤ c.toNat ∧ c.toNat ≤ 57)
/-- What the digits spell behind 'a'. -/
def valFrom : Nat → List UInt8 → Nat
  | a, [] => a
  | a, c :: l => valFrom (a * 10 + (c.toNat - 48)) l
def val (l : List UInt8) : Nat := valFrom 0 l

theorem valFrom_ge : ∀ (l : List UInt8) (a : Nat), a ≤ valFrom a l
  | [], a => Nat.le_refl _
  | c :: l, a => by
    have := valFrom_ge l (a * 10 + (c.toNat - 48))
    unfold valFrom; omega
theorem valFrom_snoc : ∀ (l : List UInt8) (a : Nat) (c : UInt8), valFrom a (l ++ [c]) = valFrom a l * 10 + (c.toNat - 48)
  | [], _, _ => rfl
  | d :: l, a, c => by
    show valFrom (a * 10 + (d.toNat - 48)) (l ++ [c]) = _
    rw [valFrom_snoc l _ c]; rfl
theorem val_head (c : UInt8) (l : List UInt8) : val (c :: l) = valFrom (c.toNat - 48) l := by
  show valFrom (0 * 10 + (c.toNat - 48)) l = _
  rw [Nat.zero_mul, Nat.zero_add]
theorem valFrom_eq : ∀ (l : List UInt8) (a : Nat), valFrom a l = a * 10 ^ l.length + val l
  | [], a => by
    show a = a * 10 ^ 0 + 0
    rw [Nat.pow_zero]; omega
  | c :: l, a => by
    show valFrom (a * 10 + (c.toNat - 48)) l = _
    rw [val_head, valFrom_eq l (a * 10 + (c.toNat - 48)), valFrom_eq l (c.toNat - 48), List.length_cons, Nat.pow_succ, Nat.add_mul, Nat.mul_assoc, Nat.mul_comm 10 (10 ^ l.length), Nat.add_assoc]
theorem val_cons (c : UInt8) (l : List UInt8) : val (c :: l) = (c.toNat - 48) * 10 ^ l.length + val l := by
  rw [val_head, valFrom_eq]
theorem val_lt : ∀ (l : List UInt8), l.all isD = true → val l < 10 ^ l.length
  | [], _ => by show 0 < 10 ^ 0; decide
  | c :: l, h => by
    rw [List.all_cons, Bool.and_eq_true] at h
    have ih := val_lt l h.2
    have hc := of_decide_eq_true h.1
    rw [val_cons, List.length_cons, Nat.pow_succ]
    have : (c.toNat - 48) * 10 ^ l.length ≤ 9 * 10 ^ l.length := Nat.mul_le_mul_right _ (by omega)
    omega

/-- ParseUint at 64 bits: what it takes, and what it gives. -/
theorem parseU : ∀ (l : List UInt8) (a : Nat), a ≤ 18446744073709551615 →
    (l.all isD = true ∧ valFrom a l ≤ 18446744073709551615 ∧ Lib.parseUintM 18446744073709551615 a l = .ok (valFrom a l)) ∨
    (¬ (l.all isD = true ∧ valFrom a l ≤ 18446744073709551615) ∧ ∀ u, Lib.parseUintM 18446744073709551615 a l ≠ .ok u)
  | [], a, h => .inl ⟨rfl, h, rfl⟩
  | c :: l, a, h => by
    by_cases hc : 48 ≤ c.toNat ∧ c.toNat ≤ 57
    · have hd : isD c = true := decide_eq_true hc
      rw [Lib.parseUintM, if_pos hc, List.all_cons, hd, Bool.true_and]
      show (_ ∧ valFrom (a * 10 + (c.toNat - 48)) l ≤ _ ∧ _ = Lib.NumEnd.ok (valFrom (a * 10 + (c.toNat - 48)) l)) ∨ (¬ (_ ∧ valFrom (a * 10 + (c.toNat - 48)) l ≤ _) ∧ _)
      have hge := valFrom_ge l (a * 10 + (c.toNat - 48))
      by_cases h1 : 1844674407370955162 ≤ a
      · rw [if_pos h1]
        exact .inr ⟨fun x => by have := x.2; omega, fun u e => by cases e⟩
      · rw [if_neg h1]
        by_cases h2 : 18446744073709551615 < a * 10 + (c.toNat - 48)
        · rw [if_pos h2]
          exact .inr ⟨fun x => by have := x.2; omega, fun u e => by cases e⟩
        · rw [if_neg h2]
          exact parseU l _ (by omega)
    · have hd : isD c = false := decide_eq_false hc
      refine .inr ⟨fun x => ?_, fun u e => ?_⟩
      · rw [List.all_cons, hd] at x; cases x.1
      · rw [Lib.parseUintM, if_neg hc] at e; cases e

/-- The sign, and what stands behind it. -/
def negT : List UInt8 → Bool
  | [] => false
  | c :: _ => decide (c.toNat = 45)
def restT : List UInt8 → List UInt8
  | [] => []
  | c :: r => if c.toNat = 43 ∨ c.toNat = 45 then r else c :: r
def limT (l : List UInt8) : Nat := if negT l = true then 9223372036854775808 else 9223372036854775807
/-- Is it a number that an int64 holds? -/
def tokOk (l : List UInt8) : Bool := decide (restT l ≠ [] ∧ (restT l).all isD = true ∧ val (restT l) ≤ limT l)
def tokVal (l : List UInt8) : Int := if negT l = true then -(val (restT l) : Int) else val (restT l)

/-- ParseInt at 64 bits is just that. -/
theorem parseI (l : List UInt8) : (tokOk l = true → Lib.parseIntB 64 l = .ok (tokVal l)) ∧ (tokOk l = false → ∀ v, Lib.parseIntB 64 l ≠ .ok v) := by
  have e64 : (2 : Nat) ^ 64 - 1 = 18446744073709551615 := by decide
  have e63 : (2 : Nat) ^ (64 - 1) = 9223372036854775808 := by decide
  cases l with
  | nil =>
    refine ⟨fun h => ?_, fun _ v e => by cases e⟩
    have := of_decide_eq_true h
    exact absurd rfl this.1
  | cons c r =>
    have hr : (if c.toNat = 43 ∨ c.toNat = 45 then r else c :: r) = restT (c :: r) := rfl
    have hn : negT (c :: r) = decide (c.toNat = 45) := rfl
    unfold Lib.parseIntB
    simp only [hr, e63]
    unfold Lib.parseUintB
    rw [e64]
    unfold tokOk tokVal limT
    rw [hn]
    generalize restT (c :: r) = q
    by_cases hq : q = []
    · subst hq
      refine ⟨fun h => ?_, fun _ v e => by simp at e⟩
      have := of_decide_eq_true h
      exact absurd rfl this.1
    · rw [if_neg hq]
      rcases parseU q 0 (by omega) with ⟨h1, h2, h3⟩ | ⟨h1, h2⟩
      · rw [h3]
        show _ ∧ _
        have hv : valFrom 0 q = val q := rfl
        rw [hv] at h2 ⊢
        simp only
        by_cases h45 : c.toNat = 45
        · simp only [h45, decide_true, if_true, not_true, false_and, if_false, true_and]
          constructor
          · intro h
            have := (of_decide_eq_true h).2.2
            rw [if_neg (by omega)]
          · intro h v e
            have h' := of_decide_eq_false h
            rw [if_pos (by
              rcases Nat.lt_or_ge 9223372036854775808 (val q) with k | k
              · exact k
              · exact absurd ⟨hq, h1, k⟩ h')] at e
            cases e
        · simp only [h45, decide_false, Bool.false_eq_true, if_false, not_false_eq_true, true_and, false_and]
          constructor
          · intro h
            have := (of_decide_eq_true h).2.2
            rw [if_neg (by omega)]
          · intro h v e
            have h' := of_decide_eq_false h
            rw [if_pos (by
              rcases Nat.lt_or_ge 9223372036854775807 (val q) with k | k
              · exact k
              · exact absurd ⟨hq, h1, k⟩ h')] at e
            cases e
      · constructor
        · intro h
          have h' := of_decide_eq_true h
          refine absurd ⟨h'.2.1, ?_⟩ h1
          have := h'.2.2
          have hv : valFrom 0 q = val q := rfl
          rw [hv]
          split at this <;> omega
        · intro _ v
          cases hp : Lib.parseUintM 18446744073709551615 0 q with
          | ok u => exact absurd hp (h2 u)
          | _ => intro e; simp at e

/-- The text without its leading zeros, one byte kept. -/
def strip : List UInt8 → List UInt8
  | [] => []
  | [c] => [c]
  | c :: d :: l => if c.toNat = 48 then strip (d :: l) else c :: d :: l
theorem strip_val : ∀ (l : List UInt8), val (strip l) = val l
  | [] => rfl
  | [_] => rfl
  | c :: d :: l => by
    unfold strip
    split
    · rename_i h
      rw [strip_val (d :: l), val_cons c (d :: l), h]; omega
    · rfl
theorem strip_all : ∀ (l : List UInt8), l.all isD = true → (strip l).all isD = true
  | [], h => h
  | [_], h => h
  | c :: d :: l, h => by
    unfold strip
    split
    · rw [List.all_cons, Bool.and_eq_true] at h
      exact strip_all (d :: l) h.2
    · exact h
/-- What is left is one byte, or it opens with no zero. -/
theorem strip_head : ∀ (l : List UInt8), l ≠ [] → ∃ c r, strip l = c :: r ∧ (r = [] ∨ c.toNat ≠ 48)
  | [], h => absurd rfl h
  | [c], _ => ⟨c, [], rfl, .inl rfl⟩
  | c :: d :: l, _ => by
    unfold strip
    split
    · exact strip_head (d :: l) (by simp)
    · rename_i h
      exact ⟨c, d :: l, rfl, .inr h⟩

/-- The order of two texts of one length. -/
def lexLe : List UInt8 → List UInt8 → Bool
  | [], _ => true
  | _, [] => true
  | a :: x, b :: y => if a.toNat = b.toNat then lexLe x y else decide (a.toNat < b.toNat)
def atMost (d l : List UInt8) : Bool := if d.length = l.length then lexLe d l else decide (d.length < l.length)
theorem lexLe_val : ∀ (d l : List UInt8), d.length = l.length → d.all isD = true → l.all isD = true → (lexLe d l = true ↔ val d ≤ val l)
  | [], [], _, _, _ => ⟨fun _ => Nat.le_refl _, fun _ => rfl⟩
  | [], _ :: _, h, _, _ => by simp at h
  | _ :: _, [], h, _, _ => by simp at h
  | a :: x, b :: y, h, hd, hl => by
    rw [List.all_cons, Bool.and_eq_true] at hd hl
    have ha := of_decide_eq_true hd.1
    have hb := of_decide_eq_true hl.1
    have hlen : x.length = y.length := by simpa using h
    have ih := lexLe_val x y hlen hd.2 hl.2
    have vx := val_lt x hd.2
    have vy := val_lt y hl.2
    rw [hlen] at vx
    unfold lexLe
    rw [val_cons, val_cons, hlen]
    generalize 10 ^ y.length = p at *
    split
    · rename_i e
      rw [ih, e]; omega
    · rename_i e
      rw [decide_eq_true_iff]
      by_cases hab : a.toNat < b.toNat
      · have : (a.toNat - 48 + 1) * p ≤ (b.toNat - 48) * p := Nat.mul_le_mul_right _ (by omega)
        rw [Nat.add_mul, Nat.one_mul] at this
        simp only [hab, true_iff]
        omega
      · have : (b.toNat - 48 + 1) * p ≤ (a.toNat - 48) * p := Nat.mul_le_mul_right _ (by omega)
        rw [Nat.add_mul, Nat.one_mul] at this
        simp only [hab, false_iff]
        omega
theorem pow_mono (a b : Nat) (h : a ≤ b) : (10 : Nat) ^ a ≤ 10 ^ b := Nat.pow_le_pow_right (by omega) h
/-- The text's order is the numbers' order. -/
theorem atMost_val (d l : List UInt8) (hd : d.all isD = true) (hl : l.all isD = true) (h0 : ∃ c r, d = c :: r ∧ (r = [] ∨ c.toNat ≠ 48)) (h1 : ∃ c r, l = c :: r ∧ r ≠ [] ∧ c.toNat ≠ 48) :
    atMost d l = true ↔ val d ≤ val l := by
  unfold atMost
  split
  · rename_i e
    exact lexLe_val d l e hd hl
  · rename_i e
    rw [decide_eq_true_iff]
    have lead : ∀ (c : UInt8) (r : List UInt8), (c :: r).all isD = true → c.toNat ≠ 48 → 10 ^ r.length ≤ val (c :: r) := by
      intro c r h hc
      rw [List.all_cons, Bool.and_eq_true] at h
      have := of_decide_eq_true h.1
      rw [val_cons]
      have : 1 * 10 ^ r.length ≤ (c.toNat - 48) * 10 ^ r.length := Nat.mul_le_mul_right _ (by omega)
      omega
    obtain ⟨c, r, rfl, hc⟩ := h0
    obtain ⟨b, q, rfl, hq, hb⟩ := h1
    have hql : 1 ≤ q.length := by
      cases q with
      | nil => exact absurd rfl hq
      | cons _ _ => simp
    simp only [List.length_cons] at e ⊢
    have lb := lead b q hl hb
    constructor
    · intro h
      have := val_lt (c :: r) hd
      have := pow_mono (c :: r).length q.length (by simp; omega)
      omega
    · intro h
      rcases Nat.lt_or_ge r.length q.length with k | k
      · omega
      · have hr : c.toNat ≠ 48 := by
          rcases hc with rfl | hc
          · have : ([] : List UInt8).length = 0 := rfl
            omega
          · exact hc
        have lc := lead c r hd hr
        have := val_lt (b :: q) hl
        have := pow_mono (b :: q).length r.length (by simp; omega)
        omega
end Go.Proofs.Qxb6603014aDoor
