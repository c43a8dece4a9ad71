/- Plain laws: the digits of a text, byte by byte and rune by rune. No Go in sight. -/
import Derived.Laws.RangeAny
namespace Go.Proofs.Qxb6602690a

/-- The bytes from 48 to 57, in order. -/
def dgs (l : List UInt8) : List UInt8 := l.filter (fun c => decide (48 ≤ c.toNat ∧ c.toNat ≤ 57))

theorem dgs_snoc (l : List UInt8) (c : UInt8) : dgs (l ++ [c]) = dgs l ++ if 48 ≤ c.toNat ∧ c.toNat ≤ 57 then [c] else [] := by
  unfold dgs
  rw [List.filter_append]
  by_cases h : 48 ≤ c.toNat ∧ c.toNat ≤ 57 <;> simp [h]
theorem take_snoc (s : ByteArray) (k : Nat) (h : k < s.size) : s.data.toList.take (k + 1) = s.data.toList.take k ++ [s[k]] := by
  rw [List.take_succ_eq_append_getElem (by simpa using h)]; rfl
theorem dgs_le (s : ByteArray) (k : Nat) : (dgs (s.data.toList.take k)).length ≤ k := by
  unfold dgs
  exact Nat.le_trans (List.length_filter_le _ _) (List.length_take_le _ _)
theorem get_is (s : ByteArray) (i : Nat) (h : i < s.size) : s.get! i = s[i] := by
  simp [ByteArray.get!, getElem!_pos, h]
  rfl
/-- A rune that begins with a high byte takes high bytes alone. -/
theorem decode_cover (s : ByteArray) (pos : Nat) (h : pos < s.size) (ha : 128 ≤ (s[pos]'h).toNat) (k : Nat) (hk : k < (Utf8.decode s pos).2) :
    pos + k < s.size ∧ 128 ≤ (s.get! (pos + k)).toNat := by
  have hn : ¬ (s[pos]'h).toNat < 128 := by omega
  have h0 : 128 ≤ (s.get! (pos + 0)).toNat := by rw [get_at s pos h]; exact ha
  revert hk
  simp only [Utf8.decode, get_at s pos h, hn, if_false]
  repeat' split
  all_goals simp_all
  all_goals intro hk
  all_goals
    have hc : k = 0 ∨ k = 1 ∨ k = 2 ∨ k = 3 := by omega
    rcases hc with rfl | rfl | rfl | rfl
  all_goals first
    | omega
    | (constructor <;> omega)
theorem dgs_high (s : ByteArray) (pos : Nat) : ∀ n, (∀ k, k < n → pos + k < s.size ∧ 128 ≤ (s.get! (pos + k)).toNat) → dgs (s.data.toList.take (pos + n)) = dgs (s.data.toList.take pos)
  | 0, _ => rfl
  | n + 1, h => by
    obtain ⟨h1, h2⟩ := h n (by omega)
    rw [get_is s _ h1] at h2
    rw [show pos + (n + 1) = (pos + n) + 1 by omega, take_snoc s (pos + n) h1, dgs_snoc, if_neg (by omega), List.append_nil]
    exact dgs_high s pos n fun k hk => h k (by omega)
theorem dgs_skip (s : ByteArray) (pos : Nat) (h : pos < s.size) (ha : 128 ≤ (s[pos]'h).toNat) : dgs (s.data.toList.take (pos + (Utf8.decode s pos).2)) = dgs (s.data.toList.take pos) :=
  dgs_high s pos _ fun k hk => decode_cover s pos h ha k hk
theorem dgs_end (s : ByteArray) (pos : Nat) (h : ¬ pos < s.size) : dgs (s.data.toList.take pos) = dgs s.data.toList := by
  rw [List.take_of_length_le]
  have : s.data.toList.length = s.size := Array.length_toList
  omega
end Go.Proofs.Qxb6602690a
