/- Plain laws beside zzToken's walk. -/
import Derived.Test.Qxb6603014aDoorAtMost
import Derived.Laws.BitsAllLaws
namespace Go.Proofs.Qxb6603014aDoor
open Go.RowKit

theorem tok_no (l : List UInt8) (h : ¬ (restT l ≠ [] ∧ (restT l).all isD = true ∧ val (restT l) ≤ limT l)) : tokOk l = false := decide_eq_false h
theorem tok_empty (l : List UInt8) (h : restT l = []) : tokOk l = false := tok_no l fun x => x.1 h
theorem tok_bad (l : List UInt8) (h : (restT l).all isD = false) : tokOk l = false := tok_no l fun x => by have := x.2.1; rw [h] at this; cases this
theorem tok_big (l : List UInt8) (h : ¬ val (restT l) ≤ limT l) : tokOk l = false := tok_no l fun x => h x.2.2
theorem tok_yes (l : List UInt8) (h0 : restT l ≠ []) (h1 : (restT l).all isD = true) (h2 : val (restT l) ≤ limT l) : tokOk l = true := decide_eq_true ⟨h0, h1, h2⟩
def TokRet (l : List UInt8) : Ending := .returned (.tuple #[.int .i64 (if tokOk l = true then tokVal l else 0), .bool (tokOk l)])
theorem ret_no {l : List UInt8} (h : tokOk l = false) : Ending.returned (.tuple #[.int .i64 0, .bool false]) = TokRet l := by unfold TokRet; rw [h]; rfl
theorem ret_yes {l : List UInt8} {v : Int} (h : tokOk l = true) (hv : v = tokVal l) : Ending.returned (.tuple #[.int .i64 v, .bool true]) = TokRet l := by unfold TokRet; rw [h, hv]; rfl

theorem head_at (t : ByteArray) (h : 0 < t.size) : t.data.toList = t[0] :: t.data.toList.drop 1 := by
  have := drop_at t 0 h
  rwa [List.drop_zero] at this
theorem rest_plain (t : ByteArray) (h : 0 < t.size) (hc : ¬ (t[0].toNat = 43 ∨ t[0].toNat = 45)) : restT t.data.toList = t.data.toList.drop 0 ∧ negT t.data.toList = false := by
  rw [List.drop_zero, head_at t h]
  refine ⟨?_, decide_eq_false (by omega)⟩
  show (if _ then _ else _) = _
  rw [if_neg hc]
theorem rest_plus (t : ByteArray) (h : 0 < t.size) (hc : t[0].toNat = 43) : restT t.data.toList = t.data.toList.drop 1 ∧ negT t.data.toList = false := by
  refine ⟨?_, ?_⟩
  · rw [head_at t h]
    show (if _ then _ else _) = _
    rw [if_pos (.inl hc)]; rfl
  · rw [head_at t h]; exact decide_eq_false (by omega)
theorem rest_minus (t : ByteArray) (h : 0 < t.size) (hc : t[0].toNat = 45) : restT t.data.toList = t.data.toList.drop 1 ∧ negT t.data.toList = true := by
  refine ⟨?_, ?_⟩
  · rw [head_at t h]
    show (if _ then _ else _) = _
    rw [if_pos (.inr hc)]; rfl
  · rw [head_at t h]; exact decide_eq_true hc
theorem all_from (t : ByteArray) (i : Nat) (h : ∀ m (hm : m < t.size), i ≤ m → isD t[m] = true) : (t.data.toList.drop i).all isD = true := by
  rw [List.all_eq_true]
  intro c hc
  obtain ⟨j, hj, rfl⟩ := List.mem_iff_getElem.1 hc
  rw [List.getElem_drop]
  have hj' : i + j < t.size := by rw [List.length_drop, sz] at hj; omega
  exact h (i + j) hj' (by omega)
theorem bad_from (t : ByteArray) (i m : Nat) (hm : m < t.size) (hi : i ≤ m) (h : isD t[m] = false) : (t.data.toList.drop i).all isD = false := by
  rw [List.all_eq_false]
  refine ⟨t[m], ?_, by rw [h]; decide⟩
  refine List.mem_iff_getElem.2 ⟨m - i, by rw [List.length_drop, sz]; omega, ?_⟩
  rw [List.getElem_drop]
  show t.data.toList[i + (m - i)]'_ = t.data.toList[m]'_
  congr 1; omega
theorem strip_zero (t : ByteArray) (k : Nat) (h : k + 1 < t.size) (hc : (t[k]'(by omega)).toNat = 48) : strip (t.data.toList.drop k) = strip (t.data.toList.drop (k + 1)) := by
  rw [drop_at t k (by omega), drop_at t (k + 1) h, strip, if_pos hc]
theorem strip_keep (t : ByteArray) (k : Nat) (h : k < t.size) (hc : ¬ t[k].toNat = 48) : strip (t.data.toList.drop k) = t.data.toList.drop k := by
  rw [drop_at t k h]
  cases t.data.toList.drop (k + 1) with
  | nil => rfl
  | cons d l => rw [strip, if_neg hc]
theorem strip_last (t : ByteArray) (k : Nat) (h : k + 1 = t.size) : strip (t.data.toList.drop k) = t.data.toList.drop k := by
  rw [drop_at t k (by omega), List.drop_of_length_le (by rw [sz]; omega)]
  rfl
theorem extract_drop (t : ByteArray) (k : Nat) : (t.extract k t.size).data.toList = t.data.toList.drop k := by
  rw [ByteArray.data_extract, Array.toList_extract, List.extract_eq_take_drop]
  exact List.take_of_length_le (by rw [List.length_drop, sz]; omega)

def limP : ByteArray := { data := #[57, 50, 50, 51, 51, 55, 50, 48, 51, 54, 56, 53, 52, 55, 55, 53, 56, 48, 55] }
def limN : ByteArray := { data := #[57, 50, 50, 51, 51, 55, 50, 48, 51, 54, 56, 53, 52, 55, 55, 53, 56, 48, 56] }
theorem limP_val : val limP.data.toList = 9223372036854775807 := by decide +kernel
theorem limN_val : val limN.data.toList = 9223372036854775808 := by decide +kernel
theorem limP_all : limP.data.toList.all isD = true := by decide +kernel
theorem limN_all : limN.data.toList.all isD = true := by decide +kernel
/-- The text's test, at a stripped text, is the number's. -/
theorem limP_is (l : List UInt8) (h0 : l ≠ []) (h1 : l.all isD = true) : atMost (strip l) limP.data.toList = true ↔ val l ≤ 9223372036854775807 := by
  rw [atMost_val (strip l) _ (strip_all l h1) limP_all (strip_head l h0) ⟨57, _, rfl, by simp, by decide⟩, strip_val, limP_val]
theorem limN_is (l : List UInt8) (h0 : l ≠ []) (h1 : l.all isD = true) : atMost (strip l) limN.data.toList = true ↔ val l ≤ 9223372036854775808 := by
  rw [atMost_val (strip l) _ (strip_all l h1) limN_all (strip_head l h0) ⟨57, _, rfl, by simp, by decide⟩, strip_val, limN_val]

/-- '^u + 1', taken as an int64, at u up to 2^63. -/
theorem neg_i64 (u : Int) (h0 : 0 ≤ u) (h1 : u ≤ 9223372036854775808) : IntKind.i64.wrap (IntKind.u64.wrap (bits .xor .u64 IntKind.u64.max u + 1)) = -u := by
  have e2 : IntKind.u64.max = 18446744073709551615 := rfl
  rw [e2, u64_xor _ _ (by omega) (by omega) (by omega) (by omega)]
  have e3 : (18446744073709551615 : Int).toNat ^^^ u.toNat = 18446744073709551615 - u.toNat := by
    have hx : u.toNat < 2 ^ 64 := by omega
    have hb := BitVec.toNat_not (x := BitVec.ofNat 64 u.toNat)
    rw [← BitVec.xor_allOnes, BitVec.toNat_xor, BitVec.toNat_allOnes, BitVec.toNat_ofNat, Nat.mod_eq_of_lt hx] at hb
    rw [Nat.xor_comm]
    exact hb
  rw [e3]
  simp only [IntKind.wrap, IntKind.bits, IntKind.signed]
  simp
  split <;> omega
theorem val_take (t : ByteArray) (m : Nat) (h : m < t.size) : val (t.data.toList.take (m + 1)) = val (t.data.toList.take m) * 10 + (t[m].toNat - 48) := by
  have e : t.data.toList.take (m + 1) = t.data.toList.take m ++ [t[m]] := by
    rw [List.take_succ_eq_append_getElem (by rw [sz]; exact h)]; rfl
  rw [e]; exact valFrom_snoc _ _ _
theorem val_take_le (l : List UInt8) (m : Nat) : val (l.take m) ≤ val l := by
  have e : val l = valFrom (val (l.take m)) (l.drop m) := by
    have : ∀ (a b : List UInt8) (x : Nat), valFrom x (a ++ b) = valFrom (valFrom x a) b := by
      intro a
      induction a with
      | nil => intro b x; rfl
      | cons c a ih => intro b x; exact ih b _
    unfold val
    rw [← this, List.take_append_drop]
  rw [e]; exact valFrom_ge _ _
end Go.Proofs.Qxb6603014aDoor
