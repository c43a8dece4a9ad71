/- FnDiscountAmountCaseTable returns true, case by case. -/
import Derived.Test.Qxb6602690aFloorWalks
namespace Go.Proofs.Qxb6602690a
open Go.ChangeShapes Go.WideShapes Go.ChangeAt Go.RowKit
set_option linter.unusedVariables false

/-- What Amount reckons ahead of the cap inside the law's domain. -/
theorem raw_p (t : List UInt8) (v base : Int) (h : 0 < base) (hb : base ≤ 9223372036854775807) (h0 : 0 ≤ v) (h1 : v ≤ 100) (ht : (t == pct) = true) : raw t v base = base * v / 100 := by
  unfold raw; rw [if_pos ht]; exact raw_pct v base h hb h0 h1
theorem raw_f (t : List UInt8) (v base : Int) (ht : (t == pct) = false) (hf : (t == fxd) = true) : raw t v base = v := by
  unfold raw; rw [ht, if_neg (by decide), if_pos hf]
theorem raw_n (t : List UInt8) (v base : Int) (ht : (t == pct) = false) (hf : (t == fxd) = false) : raw t v base = 0 := by
  unfold raw; rw [ht, hf, if_neg (by decide), if_neg (by decide)]
theorem low_gmin (base x : Int) : low base x = gmin x base := by unfold low gmin; split <;> split <;> omega
theorem cap_gmin (c x : Int) : capped (some c) x = gmin x c := by unfold capped gmin; simp only; split <;> split <;> omega
theorem amt_none (t : List UInt8) (v base x : Int) (h : 0 < base) (hx : raw t v base = x) : amt t v none base = gmin x base := by
  unfold amt; rw [if_neg (by omega), hx, low_gmin]; rfl
theorem amt_some (t : List UInt8) (v base x c : Int) (h : 0 < base) (hx : raw t v base = x) : amt t v (some c) base = gmin (gmin x c) base := by
  unfold amt; rw [if_neg (by omega), hx, low_gmin, cap_gmin]

/-- The texts that are too long, and a percentage outside 0..100. -/
theorem table_out (typ : ByteArray) (v base : Int) (p : Option Addr) (w : World) (h0 : typ.size ≤ maxLen)
    (hs : 1048576 < (typ.size : Int) ∨ ((typ.size : Int) ≤ 1048576 ∧ (typ.toList == [112, 101, 114, 99, 101, 110, 116, 97, 103, 101]) = true ∧ (v < 0 ∨ (0 ≤ v ∧ 100 < v)))) :
    Calls Try.prog 3 #[.string typ, .int .i64 v, .pointer p, .int .i64 base] w fun e w' => e = .returned (.bool true) ∧ Below w.heap.size w w' := by
  unfold maxLen at h0
  rcases hs with hs | ⟨hs, ht, hv | ⟨hv, hv'⟩⟩
  all_goals
    go_enter Try.func3, Try.ntmps3
    go_wp2
    go_ret
    exact ⟨rfl, Below.refl _ _⟩

def Dom (typ : ByteArray) (v base r : Int) : Prop :=
  ((typ.toList == [112, 101, 114, 99, 101, 110, 116, 97, 103, 101]) = true ∧ 0 ≤ v ∧ v ≤ 100 ∧ r = base * v / 100) ∨
  ((typ.toList == [112, 101, 114, 99, 101, 110, 116, 97, 103, 101]) = false ∧ (typ.toList == [102, 105, 120, 101, 100]) = true ∧ r = v) ∨
  ((typ.toList == [112, 101, 114, 99, 101, 110, 116, 97, 103, 101]) = false ∧ (typ.toList == [102, 105, 120, 101, 100]) = false ∧ r = 0)

set_option maxHeartbeats 400000 in
theorem table_nil (typ : ByteArray) (v base r : Int) (w : World) (hlen : (typ.size : Int) ≤ 1048576) (hb : 0 < base) (hb' : base ≤ 9223372036854775807) (hd : Dom typ v base r)
    (H : Hid (∀ w, Calls Try.prog 12 #[.agg #[.string typ, .int .i64 v, .pointer none], .int .i64 base] w fun e w' => e = .returned (.int .i64 (gmin r base)) ∧ w' = w.alloc (.cells #[.string typ, .int .i64 v, .pointer none] 26))) :
    Calls Try.prog 3 #[.string typ, .int .i64 v, .pointer none, .int .i64 base] w fun e w' => e = .returned (.bool true) ∧ Below w.heap.size w w' := by
  have hcl : Hid (∀ o1 o2, Below w.heap.size w ((w.alloc o1).alloc o2)) := fun o1 o2 => ((Below.refl _ _).alloc (Nat.le_refl _) _).alloc (by simp) _
  rcases hd with ⟨h1, h2, h3, rfl⟩ | ⟨h1, h2, rfl⟩ | ⟨h1, h2, rfl⟩
  all_goals
    go_enter Try.func3, Try.ntmps3
    go_wp2_with (first | (go_at_call 11; refine (bytes11 _ _ _ _ _ (by omega)).mono ?_; rintro e w' ⟨rfl, rfl⟩) | (go_at_call 12; refine (H.out _).mono ?_; rintro e w' ⟨rfl, rfl⟩) | (go_at_call 13; refine (floor_any _ _ _ (by omega) (by omega) (by omega) (by omega)).mono ?_; rintro e w' ⟨rfl, rfl⟩) | (go_at_call 14; refine (min_any _ _ _).mono ?_; rintro e w' ⟨rfl, rfl⟩))
    go_ret
    exact ⟨rfl, hcl.out _ _⟩

set_option maxHeartbeats 400000 in
theorem table_cap (typ : ByteArray) (v base r : Int) (w : World) (b off : Nat) (c : Int) (hc : w.cell? ⟨b, off, none⟩ = some (.int .i64 c)) (hlen : (typ.size : Int) ≤ 1048576) (hb : 0 < base) (hb' : base ≤ 9223372036854775807) (hd : Dom typ v base r)
    (H : Hid (∀ w b off, b < w.heap.size → w.cell? ⟨b, off, none⟩ = some (.int .i64 c) → Calls Try.prog 12 #[.agg #[.string typ, .int .i64 v, .pointer (some ⟨b, off, none⟩)], .int .i64 base] w fun e w' => e = .returned (.int .i64 (gmin (gmin r c) base)) ∧ w' = w.alloc (.cells #[.string typ, .int .i64 v, .pointer (some ⟨b, off, none⟩)] 26))) :
    Calls Try.prog 3 #[.string typ, .int .i64 v, .pointer (some ⟨b, off, none⟩), .int .i64 base] w fun e w' => e = .returned (.bool true) ∧ Below w.heap.size w w' := by
  have hcl : Hid (∀ o1 o2 o3, Below w.heap.size w (((w.alloc o1).alloc o2).alloc o3)) := fun o1 o2 o3 => (((Below.refl _ _).alloc (Nat.le_refl _) _).alloc (by simp) _).alloc (by simp; omega) _
  rcases hd with ⟨h1, h2, h3, rfl⟩ | ⟨h1, h2, rfl⟩ | ⟨h1, h2, rfl⟩
  all_goals
    go_enter Try.func3, Try.ntmps3
    go_wp2_with (first | (go_at_call 11; refine (bytes11 _ _ _ _ _ (by omega)).mono ?_; rintro e w' ⟨rfl, rfl⟩) | (go_at_call 12; refine (H.out _ _ _ (by simp; omega) (by simp)).mono ?_; rintro e w' ⟨rfl, rfl⟩) | (go_at_call 13; refine (floor_any _ _ _ (by omega) (by omega) (by omega) (by omega)).mono ?_; rintro e w' ⟨rfl, rfl⟩) | (go_at_call 14; refine (min_any _ _ _).mono ?_; rintro e w' ⟨rfl, rfl⟩))
    go_ret
    exact ⟨rfl, hcl.out _ _ _⟩

set_option maxHeartbeats 400000 in
theorem table_low_nil (typ : ByteArray) (v base : Int) (w : World) (hlen : (typ.size : Int) ≤ 1048576) (hb : base ≤ 0) (hd : (typ.toList == [112, 101, 114, 99, 101, 110, 116, 97, 103, 101]) = false ∨ ((typ.toList == [112, 101, 114, 99, 101, 110, 116, 97, 103, 101]) = true ∧ 0 ≤ v ∧ v ≤ 100))
    (H : Hid (∀ w, Calls Try.prog 12 #[.agg #[.string typ, .int .i64 v, .pointer none], .int .i64 base] w fun e w' => e = .returned (.int .i64 0) ∧ w' = w.alloc (.cells #[.string typ, .int .i64 v, .pointer none] 26))) :
    Calls Try.prog 3 #[.string typ, .int .i64 v, .pointer none, .int .i64 base] w fun e w' => e = .returned (.bool true) ∧ Below w.heap.size w w' := by
  have hcl : Hid (∀ o1 o2, Below w.heap.size w ((w.alloc o1).alloc o2)) := fun o1 o2 => ((Below.refl _ _).alloc (Nat.le_refl _) _).alloc (by simp) _
  rcases hd with h1 | ⟨h1, h2, h3⟩
  all_goals
    go_enter Try.func3, Try.ntmps3
    go_wp2_with (first | (go_at_call 11; refine (bytes11 _ _ _ _ _ (by omega)).mono ?_; rintro e w' ⟨rfl, rfl⟩) | (go_at_call 12; refine (H.out _).mono ?_; rintro e w' ⟨rfl, rfl⟩))
    go_ret
    exact ⟨rfl, hcl.out _ _⟩

set_option maxHeartbeats 400000 in
theorem table_low_cap (typ : ByteArray) (v base : Int) (w : World) (b off : Nat) (c : Int) (hc : w.cell? ⟨b, off, none⟩ = some (.int .i64 c)) (hlen : (typ.size : Int) ≤ 1048576) (hb : base ≤ 0) (hd : (typ.toList == [112, 101, 114, 99, 101, 110, 116, 97, 103, 101]) = false ∨ ((typ.toList == [112, 101, 114, 99, 101, 110, 116, 97, 103, 101]) = true ∧ 0 ≤ v ∧ v ≤ 100))
    (H : Hid (∀ w b off, b < w.heap.size → w.cell? ⟨b, off, none⟩ = some (.int .i64 c) → Calls Try.prog 12 #[.agg #[.string typ, .int .i64 v, .pointer (some ⟨b, off, none⟩)], .int .i64 base] w fun e w' => e = .returned (.int .i64 0) ∧ w' = w.alloc (.cells #[.string typ, .int .i64 v, .pointer (some ⟨b, off, none⟩)] 26))) :
    Calls Try.prog 3 #[.string typ, .int .i64 v, .pointer (some ⟨b, off, none⟩), .int .i64 base] w fun e w' => e = .returned (.bool true) ∧ Below w.heap.size w w' := by
  have hcl : Hid (∀ o1 o2 o3, Below w.heap.size w (((w.alloc o1).alloc o2).alloc o3)) := fun o1 o2 o3 => (((Below.refl _ _).alloc (Nat.le_refl _) _).alloc (by simp) _).alloc (by simp; omega) _
  rcases hd with h1 | ⟨h1, h2, h3⟩
  all_goals
    go_enter Try.func3, Try.ntmps3
    go_wp2_with (first | (go_at_call 11; refine (bytes11 _ _ _ _ _ (by omega)).mono ?_; rintro e w' ⟨rfl, rfl⟩) | (go_at_call 12; refine (H.out _ _ _ (by simp; omega) (by simp)).mono ?_; rintro e w' ⟨rfl, rfl⟩))
    go_ret
    exact ⟨rfl, hcl.out _ _ _⟩

/-- The three cases of a text inside the law's domain. -/
theorem dom_of (typ : ByteArray) (v base : Int) (h : 0 < base) (hb : base ≤ 9223372036854775807) :
    ((typ.toList == [112, 101, 114, 99, 101, 110, 116, 97, 103, 101]) = true ∧ (v < 0 ∨ (0 ≤ v ∧ 100 < v))) ∨ ∃ r, Dom typ v base r ∧ raw typ.toList v base = r := by
  cases e : (typ.toList == pct)
  · cases f : (typ.toList == fxd)
    · exact .inr ⟨0, .inr (.inr ⟨e, f, rfl⟩), raw_n _ _ _ e f⟩
    · exact .inr ⟨v, .inr (.inl ⟨e, f, rfl⟩), raw_f _ _ _ e f⟩
  · by_cases hv : 0 ≤ v ∧ v ≤ 100
    · exact .inr ⟨_, .inl ⟨e, hv.1, hv.2, rfl⟩, raw_p _ _ _ h hb hv.1 hv.2 e⟩
    · exact .inl ⟨e, by omega⟩
theorem dom_low (typ : ByteArray) (v : Int) :
    ((typ.toList == [112, 101, 114, 99, 101, 110, 116, 97, 103, 101]) = true ∧ (v < 0 ∨ (0 ≤ v ∧ 100 < v))) ∨ (typ.toList == [112, 101, 114, 99, 101, 110, 116, 97, 103, 101]) = false ∨ ((typ.toList == [112, 101, 114, 99, 101, 110, 116, 97, 103, 101]) = true ∧ 0 ≤ v ∧ v ≤ 100) := by
  cases e : (typ.toList == pct)
  · exact .inr (.inl e)
  · by_cases hv : 0 ≤ v ∧ v ≤ 100
    · exact .inr (.inr ⟨e, hv⟩)
    · exact .inl ⟨e, by omega⟩

theorem table_nil_any (typ : ByteArray) (v base : Int) (w : World) (h0 : typ.size ≤ maxLen) (hb : base ≤ 9223372036854775807) :
    Calls Try.prog 3 #[.string typ, .int .i64 v, .pointer none, .int .i64 base] w fun e w' => e = .returned (.bool true) ∧ Below w.heap.size w w' := by
  by_cases hlen : (typ.size : Int) ≤ 1048576
  · by_cases hp : base ≤ 0
    · rcases dom_low typ v with h | h
      · exact table_out typ v base none w h0 (.inr ⟨hlen, h⟩)
      · have H := amount_nil typ v base
        rw [amt_zero _ _ _ _ hp] at H
        exact table_low_nil typ v base w hlen hp h H
    · rcases dom_of typ v base (by omega) hb with h | ⟨r, hr, he⟩
      · exact table_out typ v base none w h0 (.inr ⟨hlen, h⟩)
      · have H := amount_nil typ v base
        rw [amt_none _ _ _ r (by omega) he] at H
        exact table_nil typ v base r w hlen (by omega) hb hr H
  · exact table_out typ v base none w h0 (.inl (by omega))

theorem table_ptr_any (typ : ByteArray) (v base : Int) (w : World) (b off : Nat) (c : Int) (hc : w.cell? ⟨b, off, none⟩ = some (.int .i64 c)) (h0 : typ.size ≤ maxLen) (hb : base ≤ 9223372036854775807) :
    Calls Try.prog 3 #[.string typ, .int .i64 v, .pointer (some ⟨b, off, none⟩), .int .i64 base] w fun e w' => e = .returned (.bool true) ∧ Below w.heap.size w w' := by
  by_cases hlen : (typ.size : Int) ≤ 1048576
  · have H := fun w b off h1 h2 => amount_cap typ v base w b off c h1 h2
    by_cases hp : base ≤ 0
    · rcases dom_low typ v with h | h
      · exact table_out typ v base _ w h0 (.inr ⟨hlen, h⟩)
      · rw [amt_zero _ _ _ _ hp] at H
        exact table_low_cap typ v base w b off c hc hlen hp h H
    · rcases dom_of typ v base (by omega) hb with h | ⟨r, hr, he⟩
      · exact table_out typ v base _ w h0 (.inr ⟨hlen, h⟩)
      · rw [amt_some _ _ _ r c (by omega) he] at H
        exact table_cap typ v base r w b off c hc hlen (by omega) hb hr H
  · exact table_out typ v base _ w h0 (.inl (by omega))
end Go.Proofs.Qxb6602690a
