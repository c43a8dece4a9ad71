/- FnDiscountAmountWithinBaseAndCap returns true. -/
import Derived.Test.Qxb6602690aAmtWalks
namespace Go.Proofs.Qxb6602690a
open Go.ChangeShapes Go.WideShapes Go.ChangeAt Go.RowKit

/-- no domain, or not below zero -/
theorem within_cases (typ : ByteArray) (v : Int) (m : Option Int) (base : Int) (h : 0 < base) (hb : base ≤ 9223372036854775807) :
    0 ≤ amt typ.toList v m base ∨ (∃ c, m = some c ∧ c < 0) ∨ ((typ.toList == [112, 101, 114, 99, 101, 110, 116, 97, 103, 101]) = true ∧ (v < 0 ∨ (0 ≤ v ∧ 100 < v))) ∨ ((typ.toList == [102, 105, 120, 101, 100]) = true ∧ v < 0) := by
  by_cases h1 : 0 ≤ amt typ.toList v m base
  · exact .inl h1
  · refine .inr ?_
    by_cases h2 : ∃ c, m = some c ∧ c < 0
    · exact .inl h2
    · refine .inr ?_
      by_cases h3 : (typ.toList == pct) = true ∧ (v < 0 ∨ (0 ≤ v ∧ 100 < v))
      · exact .inl h3
      · refine .inr ?_
        by_cases h4 : (typ.toList == fxd) = true ∧ v < 0
        · exact h4
        · refine absurd (amt_pos typ.toList v m base h hb ?_ ?_ ?_) h1
          · cases e : (typ.toList == pct)
            · exact .inl rfl
            · refine .inr ?_; have : ¬ (v < 0 ∨ (0 ≤ v ∧ 100 < v)) := fun x => h3 ⟨e, x⟩; omega
          · cases e : (typ.toList == fxd)
            · exact .inl rfl
            · refine .inr ?_; have : ¬ v < 0 := fun x => h4 ⟨e, x⟩; omega
          · intro c hc; have : ¬ c < 0 := fun x => h2 ⟨c, hc, x⟩; omega


theorem bytes15 (typ : ByteArray) (v base : Int) (p : Option Addr) (w : World) (hs : (typ.size : Int) ≤ 1048576) :
    Calls Try.prog 15 #[.string typ, .int .i64 v, .pointer p, .int .i64 base] w fun e w' => e = .returned (.bool true) ∧ w' = w := by
  go_enter Try.func15, Try.ntmps15
  go_wp2
  go_ret
  exact ⟨rfl, rfl⟩

set_option maxHeartbeats 400000 in
theorem within_nil (typ : ByteArray) (v base g : Int) (w : World) (hlen : (typ.size : Int) ≤ 1048576) (hb : 0 < base)
    (H : Hid (∀ w, Calls Try.prog 12 #[.agg #[.string typ, .int .i64 v, .pointer none], .int .i64 base] w fun e w' => e = .returned (.int .i64 g) ∧ w' = w.alloc (.cells #[.string typ, .int .i64 v, .pointer none] 26)))
    (hz : g ≤ base) (hd : 0 ≤ g ∨ ((typ.toList == [112, 101, 114, 99, 101, 110, 116, 97, 103, 101]) = true ∧ (v < 0 ∨ (0 ≤ v ∧ 100 < v))) ∨ ((typ.toList == [102, 105, 120, 101, 100]) = true ∧ v < 0)) :
    Calls Try.prog 4 #[.string typ, .int .i64 v, .pointer none, .int .i64 base] w fun e w' => e = .returned (.bool true) ∧ Below w.heap.size w w' := by
  have hcl : Hid (∀ o1 o2, Below w.heap.size w ((w.alloc o1).alloc o2)) := fun o1 o2 => ((Below.refl _ _).alloc (Nat.le_refl _) _).alloc (by simp) _
  rcases hd with hd | ⟨hd, he | ⟨he, hf⟩⟩ | ⟨hd, he⟩
  all_goals
    go_enter Try.func4, Try.ntmps4
    go_wp2_with (first | (go_at_call 15; refine (bytes15 _ _ _ _ _ (by omega)).mono ?_; rintro e w' ⟨rfl, rfl⟩) | (go_at_call 12; refine (H.out _).mono ?_; rintro e w' ⟨rfl, rfl⟩))
    all_goals go_ret
    all_goals exact ⟨rfl, hcl.out _ _⟩

set_option maxHeartbeats 400000 in
theorem within_cap (typ : ByteArray) (v base g : Int) (w : World) (b off : Nat) (c : Int) (hc : w.cell? ⟨b, off, none⟩ = some (.int .i64 c)) (hlen : (typ.size : Int) ≤ 1048576) (hb : 0 < base)
    (H : Hid (∀ w b off, b < w.heap.size → w.cell? ⟨b, off, none⟩ = some (.int .i64 c) → Calls Try.prog 12 #[.agg #[.string typ, .int .i64 v, .pointer (some ⟨b, off, none⟩)], .int .i64 base] w fun e w' => e = .returned (.int .i64 g) ∧ w' = w.alloc (.cells #[.string typ, .int .i64 v, .pointer (some ⟨b, off, none⟩)] 26)))
    (hz : g ≤ base) (hcap : g ≤ c) (hd : 0 ≤ g ∨ c < 0 ∨ ((typ.toList == [112, 101, 114, 99, 101, 110, 116, 97, 103, 101]) = true ∧ (v < 0 ∨ (0 ≤ v ∧ 100 < v))) ∨ ((typ.toList == [102, 105, 120, 101, 100]) = true ∧ v < 0)) :
    Calls Try.prog 4 #[.string typ, .int .i64 v, .pointer (some ⟨b, off, none⟩), .int .i64 base] w fun e w' => e = .returned (.bool true) ∧ Below w.heap.size w w' := by
  have hcl : Hid (∀ o1 o2 o3, Below w.heap.size w (((w.alloc o1).alloc o2).alloc o3)) := fun o1 o2 o3 => (((Below.refl _ _).alloc (Nat.le_refl _) _).alloc (by simp) _).alloc (by simp; omega) _
  rcases hd with hd | hd | ⟨hd, he | ⟨he, hf⟩⟩ | ⟨hd, he⟩
  all_goals
    go_enter Try.func4, Try.ntmps4
    go_wp2_with (first | (go_at_call 15; refine (bytes15 _ _ _ _ _ (by omega)).mono ?_; rintro e w' ⟨rfl, rfl⟩) | (go_at_call 12; refine (H.out _ _ _ (by simp; omega) (by simp)).mono ?_; rintro e w' ⟨rfl, rfl⟩))
    all_goals go_ret
    all_goals exact ⟨rfl, hcl.out _ _ _⟩
end Go.Proofs.Qxb6602690a
