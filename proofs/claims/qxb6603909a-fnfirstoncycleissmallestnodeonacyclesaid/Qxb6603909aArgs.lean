/- cycleArgsOK, walked: where it says yes the lists are a graph. -/
import Derived.Test.Qxb6603909aClone
namespace Go.Proofs.Qxb6603909a
open Go.RowKit
set_option linter.unusedVariables false

/-- One node's list is in order. -/
def OKAt (n m : Nat) (f g : Nat → Int) (k : Nat) : Prop := 0 ≤ f k ∧ f k ≤ f (k + 1) ∧ f (k + 1) ≤ m ∧ ∀ j : Nat, f k ≤ (j : Int) → (j : Int) < f (k + 1) → 0 ≤ g j ∧ g j < (n : Int) - 1 ∧ g j ≠ (k : Int)
def OKG (n m : Nat) (f g : Nat → Int) : Prop := 1 ≤ n ∧ ∀ k, k + 1 < n → OKAt n m f g k

def ArgRet (n m : Nat) (f g : Nat → Int) (e : Ending) : Prop := ∃ b, e = .returned (.bool b) ∧ (b = true → OKG n m f g)
theorem argNo (n m : Nat) (f g : Nat → Int) : ArgRet n m f g (.returned (.bool false)) := ⟨false, rfl, fun h => by cases h⟩
theorem argYes {n m : Nat} {f g : Nat → Int} (h : OKG n m f g) : ArgRet n m f g (.returned (.bool true)) := ⟨true, rfl, fun _ => h⟩

set_option maxHeartbeats 1000000 in
theorem argsOK (bs bv n m cn cv : Nat) (av : Option Addr) (f g : Nat → Int) (w : World) (hn : n ≤ 1048576) (hm : m ≤ 1048576)
    (cs : ∀ j, j < n → w.cell? ⟨bs, j, none⟩ = some (.int .i64 (f j))) (hav : 0 < m → av = some ⟨bv, 0, none⟩) (cv' : ∀ j, j < m → w.cell? ⟨bv, j, none⟩ = some (.int .i32 (g j)))
    (hf : ∀ j, -9223372036854775808 ≤ f j ∧ f j ≤ 9223372036854775807) (hg : ∀ j, -2147483648 ≤ g j ∧ g j ≤ 2147483647) :
    Calls Try.prog 10 #[.slice (some ⟨bs, 0, none⟩) n cn, .slice av m cv] w fun e w' => ArgRet n m f g e ∧ w = w' := by
  by_cases hn0 : n = 0
  · have h0 : ((n : Int) == 0) = true := by rw [hn0]; rfl
    clear hn0
    go_enter Try.func10, Try.ntmps10
    go_wp2
    go_ret
    exact ⟨argNo _ _ _ _, rfl⟩
  have h0 : ((n : Int) == 0) = false := by rw [beq_eq_false_iff_ne]; omega
  have hn1 : 1 ≤ n := by omega
  clear hn0
  have CS : Hid (∀ j, j < n → w.cell? ⟨bs, j, none⟩ = some (.int .i64 (f j))) := cs
  have CV : Hid (∀ j, j < m → w.cell? ⟨bv, j, none⟩ = some (.int .i32 (g j))) := cv'
  have HAV : Hid (0 < m → av = some ⟨bv, 0, none⟩) := hav
  have HF : Hid (∀ j, -9223372036854775808 ≤ f j ∧ f j ≤ 9223372036854775807) := hf
  have HG : Hid (∀ j, -2147483648 ≤ g j ∧ g j ≤ 2147483647) := hg
  clear cs cv' hav hf hg
  go_enter Try.func10, Try.ntmps10
  go_wp2
  go_loop [6] (fun i => ∃ k : Nat, k + 1 ≤ n ∧ i = .int .i64 k ∧ ∀ k', k' < k → OKAt n m f g k') (fun i => n - (intOf i).toNat)
  case atStart => exact ⟨0, by omega, rfl, fun k' h => by omega⟩
  case round =>
    obtain ⟨k, hk, rfl, hok⟩ := hrel
    have HOK : Hid (∀ k', k' < k → OKAt n m f g k') := hok
    clear hok
    by_cases hlt : k + 1 < n
    · have hki : (k : Int) < (n : Int) - 1 := by omega
      have c1 := CS.out k (by omega)
      have c2 := CS.out (k + 1) hlt
      have b1 := HF.out k
      have b2 := HF.out (k + 1)
      have hcase : f k < 0 ∨ (0 ≤ f k ∧ f (k + 1) < f k) ∨ (0 ≤ f k ∧ f k ≤ f (k + 1) ∧ (m : Int) < f (k + 1)) ∨ (0 ≤ f k ∧ f k ≤ f (k + 1) ∧ f (k + 1) ≤ (m : Int)) := by omega
      obtain ⟨lo, hlo⟩ : ∃ lo, f k = lo := ⟨_, rfl⟩
      obtain ⟨hi, hhi⟩ : ∃ hi, f (k + 1) = hi := ⟨_, rfl⟩
      rw [hlo] at c1 b1 hcase
      rw [hhi] at c2 b2 hcase
      have HLO : Hid (f k = lo) := hlo
      have HHI : Hid (f (k + 1) = hi) := hhi
      clear hlo hhi
      rcases hcase with h1 | ⟨h1, h2⟩ | ⟨h1, h2, h3⟩ | ⟨h1, h2, h3⟩
      · go_wp2
        go_ret
        exact ⟨argNo _ _ _ _, rfl⟩
      · go_wp2
        go_ret
        exact ⟨argNo _ _ _ _, rfl⟩
      · go_wp2
        go_ret
        exact ⟨argNo _ _ _ _, rfl⟩
      · obtain ⟨L, rfl⟩ := Int.eq_ofNat_of_zero_le h1
        obtain ⟨H, rfl⟩ := Int.eq_ofNat_of_zero_le (show 0 ≤ hi by omega)
        have hLH : L ≤ H := by omega
        have hHm : H ≤ m := by omega
        go_wp2
        go_loop [9] (fun i => ∃ j : Nat, L ≤ j ∧ j ≤ H ∧ i = .int .i64 j ∧ ∀ j' : Nat, L ≤ j' → j' < j → 0 ≤ g j' ∧ g j' < (n : Int) - 1 ∧ g j' ≠ (k : Int)) (fun i => H - (intOf i).toNat)
        case atStart => exact ⟨L, Nat.le_refl _, hLH, rfl, fun j' a b => by omega⟩
        case round =>
          obtain ⟨j, hj1, hj2, rfl, hall⟩ := hrel
          have HALL : Hid (∀ j' : Nat, L ≤ j' → j' < j → 0 ≤ g j' ∧ g j' < (n : Int) - 1 ∧ g j' ≠ (k : Int)) := hall
          clear hall
          by_cases hjl : j < H
          · have hji : (j : Int) < (H : Int) := by omega
            have hjm : (j : Int) < (m : Int) := by omega
            have c3 := CV.out j (by omega)
            have b3 := HG.out j
            obtain ⟨v, hv⟩ : ∃ v, g j = v := ⟨_, rfl⟩
            rw [hv] at c3 b3
            have HV : Hid (g j = v) := hv
            clear hv
            have hav := HAV.out (by omega)
            subst hav
            have hcase : v < 0 ∨ (0 ≤ v ∧ (n : Int) - 1 ≤ v) ∨ (0 ≤ v ∧ v < (n : Int) - 1 ∧ (v == (k : Int)) = true) ∨ (0 ≤ v ∧ v < (n : Int) - 1 ∧ (v == (k : Int)) = false) := by
              by_cases e1 : v < 0
              · exact .inl e1
              · by_cases e2 : (n : Int) - 1 ≤ v
                · exact .inr (.inl ⟨by omega, e2⟩)
                · by_cases e : v = (k : Int)
                  · exact .inr (.inr (.inl ⟨by omega, by omega, by rw [beq_iff_eq]; exact e⟩))
                  · exact .inr (.inr (.inr ⟨by omega, by omega, by rw [beq_eq_false_iff_ne]; exact e⟩))
            rcases hcase with h4 | ⟨h4, h5⟩ | ⟨h4, h5, h6⟩ | ⟨h4, h5, h6⟩
            · go_wp2
              go_ret
              exact ⟨argNo _ _ _ _, rfl⟩
            · go_wp2
              go_ret
              exact ⟨argNo _ _ _ _, rfl⟩
            · go_wp2
              go_ret
              exact ⟨argNo _ _ _ _, rfl⟩
            · have HA2 : Hid (∀ j' : Nat, L ≤ j' → j' < j + 1 → 0 ≤ g j' ∧ g j' < (n : Int) - 1 ∧ g j' ≠ (k : Int)) := fun j' a b => by
                by_cases e : j' = j
                · subst e; rw [HV.out]; exact ⟨h4, h5, by rw [beq_eq_false_iff_ne] at h6; exact h6⟩
                · exact HALL.out j' a (by omega)
              clear HALL
              go_wp2
              exact ⟨⟨j + 1, by omega, by omega, by go_num, HA2.out⟩, by simp [intOf]; omega⟩
          · have HO2 : Hid (∀ k', k' < k + 1 → OKAt n m f g k') := fun k' hk' => by
              by_cases e : k' = k
              · subst e
                refine ⟨by rw [HLO.out]; omega, by rw [HLO.out, HHI.out]; omega, by rw [HHI.out]; omega, fun j' a b => ?_⟩
                rw [HLO.out] at a; rw [HHI.out] at b
                exact HALL.out j' (by omega) (by omega)
              · exact HOK.out k' (by omega)
            clear HALL HOK
            go_wp2
            exact ⟨⟨k + 1, by omega, by go_num, HO2.out⟩, by simp [intOf]; omega⟩
    · have hki : ¬ (k : Int) < (n : Int) - 1 := by omega
      go_wp2
      go_ret
      exact ⟨argYes ⟨hn1, fun k' hk' => HOK.out k' (by omega)⟩, rfl⟩
end Go.Proofs.Qxb6603909a
