/- zzLastSlash, messagePath and the length test, walked. -/
import Derived.Test.Qxb6603014aRows
import Derived.Test.Qxb6603014aSlashPlain
import Derived.WalkKit
import Derived.WalkSpells
import Derived.Below
namespace Go.Proofs.Qxb6603014a
open Go.RowKit
set_option linter.unusedVariables false

theorem ret_int {k : IntKind} {a b : Int} (h : a = b) : Ending.returned (.int k a) = .returned (.int k b) := by rw [h]

set_option maxHeartbeats 400000 in
theorem last_any (s : ByteArray) (w : World) (hs : s.size ≤ 2097154) :
    Calls Try.prog 5 #[.string s] w fun e w' => e = .returned (.int .i64 (lastS s.data.toList)) ∧ w = w' := by
  go_enter Try.func5, Try.ntmps5
  go_wp2
  go_loop [3] (fun i => ∃ k : Nat, k ≤ s.size ∧ i = .int .i64 ((k : Int) - 1) ∧ lastS (s.data.toList.take k) = lastS s.data.toList) (fun i => (intOf i + 1).toNat)
  case atStart => exact ⟨s.size, Nat.le_refl _, rfl, by rw [take_all]⟩
  case round =>
    obtain ⟨k, hk, rfl, hl⟩ := hrel
    have hl := (show Hid _ from hl)
    match k, hk, hl with
    | 0, hk, hl =>
      go_wp2
      go_ret
      exact ⟨ret_int (by rw [← hl.out]; rfl), rfl⟩
    | k + 1, hk, hl =>
      have ht := take_snoc s k hk
      have hl2 : Hid (lastS (s.data.toList.take k ++ [s[k]'hk]) = lastS s.data.toList) := by show _ = _; rw [← ht]; exact hl.out
      clear hl ht
      rw [show (((k + 1 : Nat) : Int) - 1) = (k : Int) from by omega]
      by_cases hc : s[k]'hk = 47
      · have hl3 : Hid ((k : Int) = lastS s.data.toList) := by
          show _ = _
          rw [← hl2.out, hc, lastS_hit, List.length_take, size_len]; omega
        have hc' : (((s[k]'hk).toNat : Int) == 47) = true := by rw [hc]; rfl
        clear hc hl2
        go_wp2
        go_ret
        exact ⟨ret_int hl3.out, rfl⟩
      · have hl3 : Hid (lastS (s.data.toList.take k) = lastS s.data.toList) := by
          show _ = _
          rw [← hl2.out, lastS_miss _ _ hc]
        have hc' : (((s[k]'hk).toNat : Int) == 47) = false := by
          rw [beq_eq_false_iff_ne]; intro e; exact hc (UInt8.toNat_inj.1 (by have : (47 : UInt8).toNat = 47 := rfl; omega))
        clear hc hl2
        go_wp2
        go_round
        case rel => exact ⟨k, by omega, by go_num, hl3.out⟩
        case measure => simp [intOf]

theorem bytes4 (a b c : ByteArray) (w : World) (h : (a.size : Int) + b.size + c.size ≤ 1048576) :
    Calls Try.prog 4 #[.string a, .string b, .string c] w fun e w' => e = .returned (.bool true) ∧ w = w' := by
  go_enter Try.func4, Try.ntmps4
  go_wp2
  go_ret
  exact ⟨rfl, rfl⟩

theorem bytes4_no (a b c : ByteArray) (w : World) (ha : a.size ≤ maxLen) (hb : b.size ≤ maxLen) (hc : c.size ≤ maxLen) (h : 1048576 < (a.size : Int) + b.size + c.size) :
    Calls Try.prog 4 #[.string a, .string b, .string c] w fun e w' => e = .returned (.bool false) ∧ w = w' := by
  unfold maxLen at ha hb hc
  go_enter Try.func4, Try.ntmps4
  go_wp2
  all_goals go_ret
  all_goals exact ⟨rfl, rfl⟩

theorem path_empty (box sub name : ByteArray) (w : World) (hb : box.toList.isEmpty = true) (h : (sub.size : Int) + name.size ≤ 1048576) :
    Calls Try.prog 6 #[.string box, .string sub, .string name] w fun e w' => (∃ p : ByteArray, e = .returned (.string p) ∧ p.data.toList = sub.data.toList ++ 47 :: name.data.toList) ∧ w = w' := by
  go_enter Try.func6, Try.ntmps6
  go_wp2
  go_ret
  refine ⟨⟨_, rfl, ?_⟩, rfl⟩
  simp
theorem path_full (box sub name : ByteArray) (w : World) (hb : box.toList.isEmpty = false) (h : (box.size : Int) + sub.size + name.size ≤ 1048576) :
    Calls Try.prog 6 #[.string box, .string sub, .string name] w fun e w' => (∃ p : ByteArray, e = .returned (.string p) ∧ p.data.toList = (box.data.toList ++ 47 :: sub.data.toList) ++ 47 :: name.data.toList) ∧ w = w' := by
  go_enter Try.func6, Try.ntmps6
  go_wp2
  go_ret
  refine ⟨⟨_, rfl, ?_⟩, rfl⟩
  simp

theorem last_none (s : ByteArray) (w : World) (hs : s.size ≤ 2097154) (h : 47 ∉ s.data.toList) :
    Calls Try.prog 5 #[.string s] w fun e w' => e = .returned (.int .i64 (-1)) ∧ w = w' := by
  rw [← lastS_none _ h]; exact last_any s w hs
theorem last_at (s : ByteArray) (n : Nat) (w : World) (hs : s.size ≤ 2097154) (h : lastS s.data.toList = n) :
    Calls Try.prog 5 #[.string s] w fun e w' => e = .returned (.int .i64 n) ∧ w = w' := by
  rw [← h]; exact last_any s w hs

/-- A text that is too long is answered true. -/
theorem law_long (box sub name : ByteArray) (w : World) (ha : box.size ≤ maxLen) (hb : sub.size ≤ maxLen) (hc : name.size ≤ maxLen) (h : 1048576 < (box.size : Int) + sub.size + name.size) :
    Calls Try.prog 3 #[.string box, .string sub, .string name] w fun e w' => e = .returned (.bool true) ∧ w = w' := by
  go_enter Try.func3, Try.ntmps3
  go_wp2_with (go_at_call 4; refine (bytes4_no _ _ _ _ ha hb hc h).mono ?_; rintro e w' ⟨rfl, rfl⟩)
  go_ret
  exact ⟨rfl, rfl⟩

/-- A sub or a name that bears a slash is answered true. -/
theorem law_slash (box sub name : ByteArray) (w : World) (h : (box.size : Int) + sub.size + name.size ≤ 1048576) (hs : 47 ∈ sub.data.toList ∨ (47 ∉ sub.data.toList ∧ 47 ∈ name.data.toList)) :
    Calls Try.prog 3 #[.string box, .string sub, .string name] w fun e w' => e = .returned (.bool true) ∧ w = w' := by
  rcases hs with hs | ⟨hs, hn⟩
  · have h0 := lastS_some _ hs
    obtain ⟨n, hn⟩ := Int.eq_ofNat_of_zero_le h0
    have H : Hid (lastS sub.data.toList = n) := hn
    clear h0 hn hs
    go_enter Try.func3, Try.ntmps3
    go_wp2_with (go_at_call 4; refine (bytes4 _ _ _ _ h).mono ?_; rintro e w' ⟨rfl, rfl⟩)
    refine (last_at _ n _ (by omega) H.out).mono ?_
    rintro e w' ⟨rfl, rfl⟩
    go_wp2
    go_ret
    exact ⟨rfl, rfl⟩
  · have h0 := lastS_some _ hn
    obtain ⟨n, hn'⟩ := Int.eq_ofNat_of_zero_le h0
    have H : Hid (lastS name.data.toList = n) := hn'
    have H2 : Hid (47 ∉ sub.data.toList) := hs
    clear h0 hn hn' hs
    go_enter Try.func3, Try.ntmps3
    go_wp2_with (go_at_call 4; refine (bytes4 _ _ _ _ h).mono ?_; rintro e w' ⟨rfl, rfl⟩)
    refine (last_none _ _ (by omega) H2.out).mono ?_
    rintro e w' ⟨rfl, rfl⟩
    go_wp2_with fail
    refine (last_at _ n _ (by omega) H.out).mono ?_
    rintro e w' ⟨rfl, rfl⟩
    go_wp2
    go_ret
    exact ⟨rfl, rfl⟩

set_option maxHeartbeats 400000 in
theorem law_empty (box sub name : ByteArray) (w : World) (h : (box.size : Int) + sub.size + name.size ≤ 1048576) (hb : box.toList.isEmpty = true) (hs : Hid (47 ∉ sub.data.toList)) (hn : Hid (47 ∉ name.data.toList)) :
    Calls Try.prog 3 #[.string box, .string sub, .string name] w fun e w' => e = .returned (.bool true) ∧ w = w' := by
  go_enter Try.func3, Try.ntmps3
  go_wp2_with (go_at_call 4; refine (bytes4 _ _ _ _ h).mono ?_; rintro e w' ⟨rfl, rfl⟩)
  refine (last_none _ _ (by omega) hs.out).mono ?_
  rintro e w' ⟨rfl, rfl⟩
  go_wp2_with fail
  refine (last_none _ _ (by omega) hn.out).mono ?_
  rintro e w' ⟨rfl, rfl⟩
  go_wp2_with fail
  refine (path_empty _ _ _ _ hb (by omega)).mono ?_
  rintro e w' ⟨⟨p, rfl, hp⟩, rfl⟩
  have hsz : p.size = sub.size + (name.size + 1) := by rw [← size_len p, hp, ← size_len sub, ← size_len name]; simp
  have hl : Hid (lastS p.data.toList = (sub.size : Nat)) := by show _ = _; rw [hp, lastS_at _ _ hn.out, size_len]
  have ht : p.extract (sub.size + 1) p.size = name := tail_is p name _ _ hp (size_len sub).symm
  have hh : p.extract 0 sub.size = sub := of_data (head_is p _ _ _ hp (size_len sub).symm)
  have hsz2 : sub.size + 1 ≤ p.size := by omega
  have hp' : Hid (p.size = sub.size + (name.size + 1)) := hsz
  clear hsz hp
  go_wp2_with fail
  refine (last_at _ sub.size _ (by have := hp'.out; omega) hl.out).mono ?_
  rintro e w' ⟨rfl, rfl⟩
  go_wp2_with fail
  refine (last_none _ _ (by omega) hs.out).mono ?_
  rintro e w' ⟨rfl, rfl⟩
  go_wp2
  go_ret
  exact ⟨rfl, rfl⟩

set_option maxHeartbeats 400000 in
theorem law_full (box sub name : ByteArray) (w : World) (h : (box.size : Int) + sub.size + name.size ≤ 1048576) (hb : box.toList.isEmpty = false) (hs : Hid (47 ∉ sub.data.toList)) (hn : Hid (47 ∉ name.data.toList)) :
    Calls Try.prog 3 #[.string box, .string sub, .string name] w fun e w' => e = .returned (.bool true) ∧ w = w' := by
  go_enter Try.func3, Try.ntmps3
  go_wp2_with (go_at_call 4; refine (bytes4 _ _ _ _ h).mono ?_; rintro e w' ⟨rfl, rfl⟩)
  refine (last_none _ _ (by omega) hs.out).mono ?_
  rintro e w' ⟨rfl, rfl⟩
  go_wp2_with fail
  refine (last_none _ _ (by omega) hn.out).mono ?_
  rintro e w' ⟨rfl, rfl⟩
  go_wp2_with fail
  refine (path_full _ _ _ _ hb (by omega)).mono ?_
  rintro e w' ⟨⟨p, rfl, hp⟩, rfl⟩
  obtain ⟨rest, hrest⟩ : ∃ r : ByteArray, r = p.extract 0 (box.size + (sub.size + 1)) := ⟨_, rfl⟩
  have hln : (box.data.toList ++ 47 :: sub.data.toList).length = box.size + (sub.size + 1) := by rw [← size_len box, ← size_len sub]; simp
  have hr : rest.data.toList = box.data.toList ++ 47 :: sub.data.toList := by rw [hrest]; exact head_is p _ _ _ hp hln.symm
  have hsz : p.size = (box.size + (sub.size + 1)) + (name.size + 1) := by rw [← size_len p, hp, ← size_len name, ← hln]; simp; omega
  have hrz : rest.size = box.size + (sub.size + 1) := by rw [← size_len rest, hr, hln]
  have hl : Hid (lastS p.data.toList = ((box.size + (sub.size + 1) : Nat) : Int)) := by show _ = _; rw [hp, lastS_at _ _ hn.out, hln]
  have hl2 : Hid (lastS rest.data.toList = (box.size : Nat)) := by show _ = _; rw [hr, lastS_at _ _ hs.out, size_len]
  have ht : p.extract (box.size + (sub.size + 1) + 1) p.size = name := tail_is p name _ _ hp hln.symm
  have hh : p.extract 0 (box.size + (sub.size + 1)) = rest := hrest.symm
  have ht2 : rest.extract (box.size + 1) rest.size = sub := tail_is rest sub _ _ hr (size_len box).symm
  have hh2 : rest.extract 0 box.size = box := of_data (head_is rest _ _ _ hr (size_len box).symm)
  clear hrest
  obtain ⟨j, hj⟩ : ∃ j, j = box.size + (sub.size + 1) := ⟨_, rfl⟩
  rw [← hj] at hl ht hh
  have hj1 : j + 1 ≤ p.size := by omega
  have hj2 : p.size ≤ 2097154 := by omega
  have hr1 : box.size + 1 ≤ rest.size := by omega
  have hr2 : rest.size ≤ 2097154 := by omega
  clear hsz hp hr hrz hj hln
  go_wp2_with fail
  refine (last_at _ j _ hj2 hl.out).mono ?_
  rintro e w' ⟨rfl, rfl⟩
  go_wp2_with fail
  refine (last_at _ box.size _ hr2 hl2.out).mono ?_
  rintro e w' ⟨rfl, rfl⟩
  go_wp2
  go_ret
  exact ⟨rfl, rfl⟩

theorem law_any (box sub name : ByteArray) (w : World) (ha : box.size ≤ maxLen) (hb : sub.size ≤ maxLen) (hc : name.size ≤ maxLen) :
    Calls Try.prog 3 #[.string box, .string sub, .string name] w fun e w' => e = .returned (.bool true) ∧ Below w.heap.size w w' := by
  have main : Calls Try.prog 3 #[.string box, .string sub, .string name] w fun e w' => e = .returned (.bool true) ∧ w = w' := by
    by_cases h : (box.size : Int) + sub.size + name.size ≤ 1048576
    · by_cases h1 : 47 ∈ sub.data.toList
      · exact law_slash box sub name w h (.inl h1)
      · by_cases h2 : 47 ∈ name.data.toList
        · exact law_slash box sub name w h (.inr ⟨h1, h2⟩)
        · cases hb : box.toList.isEmpty
          · exact law_full box sub name w h hb h1 h2
          · exact law_empty box sub name w h hb h1 h2
    · exact law_long box sub name w ha hb hc (by omega)
  refine main.mono ?_
  rintro e w' ⟨rfl, rfl⟩
  exact ⟨rfl, Below.refl _ _⟩
end Go.Proofs.Qxb6603014a
