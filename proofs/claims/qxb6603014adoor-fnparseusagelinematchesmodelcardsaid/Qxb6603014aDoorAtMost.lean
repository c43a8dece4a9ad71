/- zzIsSpace and zzDigitsAtMost, walked. -/
import Derived.Test.Qxb6603014aDoorTokPlain
import Derived.Test.Qxb6603014aDoorProg
import Derived.WalkKit
import Derived.WalkSpells
import Derived.Below
import Derived.WalkSmall
import Derived.Deep.QuietTactic
import Derived.BigQuiet
import Derived.Deep.Light
namespace Go.Proofs.Qxb6603014aDoor
open Go.RowKit
set_option linter.unusedVariables false

theorem isSp_num (c : UInt8) : Lib.isSp c = decide (c.toNat = 32 ∨ (9 ≤ c.toNat ∧ c.toNat ≤ 13)) := by
  have e : ∀ k : UInt8, (c == k) = decide (c.toNat = k.toNat) := fun k => by
    rw [Bool.eq_iff_iff, beq_iff_eq, decide_eq_true_iff, UInt8.toNat_inj]
  unfold Lib.isSp
  rw [e 9, e 10, e 11, e 12, e 13, e 32]
  show (decide (c.toNat = 9) || decide (c.toNat = 10) || decide (c.toNat = 11) || decide (c.toNat = 12) || decide (c.toNat = 13) || decide (c.toNat = 32)) = _
  rw [Bool.eq_iff_iff]
  simp only [Bool.or_eq_true, decide_eq_true_iff]
  omega

theorem isSpace_any (c : UInt8) (w : World) :
    Calls Tryd.prog 12 #[.int .u8 (c.toNat : Int)] w fun e w' => e = .returned (.bool (Lib.isSp c)) ∧ w = w' := by
  rw [isSp_num]
  generalize c.toNat = n
  by_cases h : n = 32 ∨ (9 ≤ n ∧ n ≤ 13)
  · rw [decide_eq_true h]
    have : n = 32 ∨ n = 9 ∨ n = 10 ∨ n = 11 ∨ n = 12 ∨ n = 13 := by omega
    clear h
    rcases this with rfl | rfl | rfl | rfl | rfl | rfl
    all_goals
      go_enter Tryd.func12, Tryd.ntmps12
      go_wp2
      go_ret
      exact ⟨rfl, rfl⟩
  · rw [decide_eq_false h]
    have f : ∀ k : Nat, n ≠ k → ((n : Int) == (k : Int)) = false := fun k hk => by rw [beq_eq_false_iff_ne]; omega
    have h1 : ((n : Int) == 32) = false := f 32 (by omega)
    have h2 : ((n : Int) == 9) = false := f 9 (by omega)
    have h3 : ((n : Int) == 10) = false := f 10 (by omega)
    have h4 : ((n : Int) == 11) = false := f 11 (by omega)
    have h5 : ((n : Int) == 12) = false := f 12 (by omega)
    have h6 : ((n : Int) == 13) = false := f 13 (by omega)
    clear f h
    go_enter Tryd.func12, Tryd.ntmps12
    go_wp2
    go_ret
    exact ⟨rfl, rfl⟩

theorem sz (s : ByteArray) : s.data.toList.length = s.size := Array.length_toList
theorem drop_at (s : ByteArray) (k : Nat) (h : k < s.size) : s.data.toList.drop k = s[k] :: s.data.toList.drop (k + 1) := by
  rw [List.drop_eq_getElem_cons (by rw [sz]; exact h)]; rfl
theorem lexLe_same (x y : List UInt8) (a b : UInt8) (h : a.toNat = b.toNat) : lexLe (a :: x) (b :: y) = lexLe x y := by rw [lexLe, if_pos h]
theorem lexLe_diff (x y : List UInt8) (a b : UInt8) (h : ¬ a.toNat = b.toNat) : lexLe (a :: x) (b :: y) = decide (a.toNat < b.toNat) := by rw [lexLe, if_neg h]

set_option maxHeartbeats 1000000 in
theorem atMost_walk (d l : ByteArray) (w : World) (hd : d.size ≤ 1048600) (hl : l.size ≤ 1048600) :
    Calls Tryd.prog 16 #[.string d, .string l] w fun e w' => e = .returned (.bool (atMost d.data.toList l.data.toList)) ∧ Below w.heap.size w w' := by
  by_cases hlen : d.size = l.size
  · have HA : Hid (atMost d.data.toList l.data.toList = lexLe d.data.toList l.data.toList) := by
      show _ = _; unfold atMost; rw [sz, sz, if_pos hlen]
    have hne : ((d.size : Int) != (l.size : Int)) = false := by rw [hlen]; simp
    have hle : d.size ≤ l.size := by omega
    have hge : l.size ≤ d.size := by omega
    clear hlen
    go_enter Tryd.func16, Tryd.ntmps16
    go_wp2
    go_loopw [5] (fun i wr => ∃ k : Nat, k ≤ d.size ∧ i = .int .i64 k ∧ lexLe (d.data.toList.drop k) (l.data.toList.drop k) = lexLe d.data.toList l.data.toList ∧ Below w.heap.size w wr) (fun i _ => d.size - (intOf i).toNat)
    case atStart => exact ⟨0, Nat.zero_le _, rfl, rfl, Below.refl _ _⟩
    case round =>
      obtain ⟨k, hk, rfl, hx, hb⟩ := hrel
      have HX : Hid (lexLe (d.data.toList.drop k) (l.data.toList.drop k) = lexLe d.data.toList l.data.toList) := hx
      have HB : Hid (∀ n, Below w.heap.size w (wr.drewN n)) := fun n => below_drewN hb n
      clear hx hb
      by_cases hlt : k < d.size
      · have hlt2 : k < l.size := by omega
        have hi1 : (k : Int) < (d.size : Int) := by omega
        have hi2 : (k : Int) < (l.size : Int) := by omega
        have HX2 : Hid (lexLe ((d[k]'hlt) :: d.data.toList.drop (k + 1)) ((l[k]'hlt2) :: l.data.toList.drop (k + 1)) = lexLe d.data.toList l.data.toList) := by
          show _ = _; rw [← drop_at d k hlt, ← drop_at l k hlt2]; exact HX.out
        clear HX
        by_cases hc : (d[k]'hlt).toNat = (l[k]'hlt2).toNat
        · have HX3 : Hid (lexLe (d.data.toList.drop (k + 1)) (l.data.toList.drop (k + 1)) = lexLe d.data.toList l.data.toList) := by
            show _ = _; rw [← HX2.out, lexLe_same _ _ _ _ hc]
          have hc' : (((d[k]'hlt).toNat : Int) != ((l[k]'hlt2).toNat : Int)) = false := by rw [hc]; simp
          clear HX2 hc
          go_wp2
          go_quiet (fail)
          go_wp2
          exact ⟨⟨k + 1, by omega, by go_num, HX3.out, HB.out _⟩, by simp [intOf]; omega⟩
        · have HX3 : Hid (decide ((d[k]'hlt).toNat < (l[k]'hlt2).toNat) = atMost d.data.toList l.data.toList) := by
            show _ = _; rw [HA.out, ← HX2.out, lexLe_diff _ _ _ _ hc]
          have hc' : (((d[k]'hlt).toNat : Int) != ((l[k]'hlt2).toNat : Int)) = true := by rw [bne_iff_ne]; omega
          clear HX2 hc
          go_wp2
          go_quiet (fail)
          go_wp2
          go_quiet (fail)
          go_wp2
          go_ret
          exact ⟨congrArg (fun b => Ending.returned (Value.bool b)) HX3.out, below_drewN (HB.out _) _⟩
      · have HF : Hid (true = atMost d.data.toList l.data.toList) := by
          show _ = _
          rw [HA.out, ← HX.out, List.drop_of_length_le (by rw [sz]; omega)]
          rfl
        go_wp2
        go_ret
        exact ⟨congrArg (fun b => Ending.returned (Value.bool b)) HF.out, HB.out 0⟩
  · have HF : Hid (decide (d.size < l.size) = atMost d.data.toList l.data.toList) := by
      show _ = _
      unfold atMost; rw [sz, sz, if_neg hlen]
    have hne : ((d.size : Int) != (l.size : Int)) = true := by rw [bne_iff_ne]; omega
    clear hlen
    go_enter Tryd.func16, Tryd.ntmps16
    go_wp2
    go_ret
    exact ⟨congrArg (fun b => Ending.returned (Value.bool b)) HF.out, Below.refl _ _⟩
end Go.Proofs.Qxb6603014aDoor
