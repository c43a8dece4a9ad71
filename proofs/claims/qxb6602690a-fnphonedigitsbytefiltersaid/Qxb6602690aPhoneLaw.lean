/- FnPhoneDigitsByteFilter returns true. -/
import Derived.Test.Qxb6602690aPhoneWalks
import Derived.OwnWalk
import Derived.Laws.IdiomStrings
import Derived.Laws.BytesArg
namespace Go.Proofs.Qxb6602690a
open Go.RowKit
set_option linter.unusedVariables false

theorem bytes17 (s : ByteArray) (w : World) (hs : (s.size : Int) ≤ 1048576) :
    Calls Try.prog 17 #[.string s] w fun e w' => e = .returned (.bool true) ∧ w = w' := by
  go_enter Try.func17, Try.ntmps17
  go_wp2
  go_ret
  exact ⟨rfl, rfl⟩
theorem export_walk (s : ByteArray) (w : World) (hs : s.size ≤ 1048576) :
    Calls Try.prog 18 #[.string s] w fun e w' => e = .returned (.string ⟨(dgs s.data.toList).toArray⟩) ∧ Below w.heap.size w w' := by
  go_enter Try.func18, Try.ntmps18
  go_wp2_with (go_at_call 29; refine (digits_walk _ _ hs).mono ?_)
  rintro e w1 ⟨rfl, hb⟩
  go_wp2
  go_ret
  exact ⟨rfl, hb⟩
theorem conv_own (w : World) (B : Nat) (v : Value) (l : List UInt8) (h : w.ownsRow B 5 1 v l.length (Lib.byteCells l)) :
    (convert 32 9 v).run Try.prog w = .ok (.string ⟨l.toArray⟩) w := by
  rcases h.2 with ⟨rfl, h0⟩ | ⟨g, cap, cur, rfl, _⟩
  · rw [run_convert_bytes_nil w 32 5 Try.underlying32 Try.underlying5 0 0 9 Try.underlying9]
    have : l = [] := List.eq_nil_of_length_eq_zero h0
    subst this
    rfl
  · refine run_convert_bytes_back w 32 9 5 ⟨g, 0, none⟩ cap l Try.underlying32 Try.underlying5 Try.underlying9 fun j hj => ?_
    exact h.cells (g := g) rfl j _ (by simp [Lib.byteCells, List.getElem?_eq_getElem hj])
theorem law_long (s : ByteArray) (w : World) (h0 : s.size ≤ maxLen) (hs : 1048576 < (s.size : Int)) :
    Calls Try.prog 6 #[.string s] w fun e w' => e = .returned (.bool true) ∧ Below w.heap.size w w' := by
  unfold maxLen at h0
  go_enter Try.func6, Try.ntmps6
  go_wp2
  go_ret
  exact ⟨rfl, Below.refl _ _⟩

set_option maxHeartbeats 1000000 in
set_option maxRecDepth 100000 in
theorem law_short (s : ByteArray) (w : World) (hs : s.size ≤ 1048576) :
    Calls Try.prog 6 #[.string s] w fun e w' => e = .returned (.bool true) ∧ Below w.heap.size w w' := by
  obtain ⟨i0, hi, hz0, hz1, hz2⟩ := info_parts (by kernel_rfl : (Try.prog.info? 5).map (fun i => (i.zero, i.size, i.bytes)) = some (some (.int .u8 0), 1, 1))
  have hs' : (s.size : Int) ≤ 1048576 := by omega
  go_enter Try.func6, Try.ntmps6
  go_wp2_with (first | (go_at_call 17; refine (bytes17 _ _ hs').mono ?_; rintro e w' ⟨rfl, rfl⟩) | (go_at_call 18; refine (export_walk _ _ hs).mono ?_))
  rintro e w1 ⟨rfl, hb1⟩
  have hz1' : w.heap.size ≤ w1.heap.size := hb1.size
  go_wp2_with (at_make; refine wpList_make_own _ rfl _ _ 32 rfl w.heap.size 5 i0 (.int .u8 0) 1 Try.underlying32 hi hz0 hz1 .i64 .i64 s.size s.size rfl rfl rfl (by rw [hz2]; omega) (by unfold maxLen; omega) hz1' ?_)
  intro w2 hown hgrow
  have hb2 : Below w.heap.size w w2 := hb1.grown hgrow hz1' (fun k hk => by cases hk)
  go_wp2
  go_loopw [4, 5] (fun v i wr => ∃ k : Nat, k ≤ s.size ∧ i = .int .i64 k ∧ wr.ownsRow w.heap.size 5 1 v (dgs (s.data.toList.take k)).length (Lib.byteCells (dgs (s.data.toList.take k))) ∧ Below w.heap.size w wr) (fun _ i _ => s.size - (intOf i).toNat)
  case atStart => exact ⟨0, Nat.zero_le _, rfl, hown, hb2⟩
  case round =>
    obtain ⟨k, hk, rfl, ho, hb⟩ := hrel
    have hdl := dgs_le s k
    have hzr : w.heap.size ≤ wr.heap.size := hb.size
    by_cases hlt : k < s.size
    · have hts : Hid (dgs (s.data.toList.take (k + 1)) = dgs (s.data.toList.take k) ++ if 48 ≤ (s[k]'hlt).toNat ∧ (s[k]'hlt).toNat ≤ 57 then [s[k]'hlt] else []) := by
        show _ = _
        rw [take_snoc s k hlt, dgs_snoc]
      by_cases h48 : 48 ≤ (s[k]'hlt).toNat ∧ (s[k]'hlt).toNat ≤ 57
      · have hts2 : Hid (dgs (s.data.toList.take (k + 1)) = dgs (s.data.toList.take k) ++ [s[k]'hlt]) := by
          show _ = _; rw [hts.out, if_pos h48]
        clear hts
        obtain ⟨h48a, h48b⟩ := h48
        go_wp2_with (at_builtin; refine wpList_append_own _ rfl _ _ 32 rfl w.heap.size 5 i0 (.int .u8 0) 1 1 Try.underlying32 hi hz0 hz1 hz2 rfl (by decide) _ _ _ rfl (ho.alloc _) ⟨wr.heap.size, 0, none⟩ 1 1 [.int .u8 (s[k]'hlt).toNat] rfl rfl ?c1 ?c2 ?c3 ?c4 ?c5 ?_)
        case c1 =>
          intro j u hj
          match j, hj with
          | 0, hj => simp at hj; subst hj; simp [Addr.add]
        case c2 => intro u hu; simp at hu; subst hu; rfl
        case c3 => unfold maxLen; omega
        case c4 => omega
        case c5 => simp; omega
        intro v' w3 hown' hgrow' _
        have hb3 : Below w.heap.size w w3 := (hb.alloc hzr _).grown hgrow' (by simp; omega) (fun k hk => (ho.lt k hk).1)
        have ho3 : w3.ownsRow w.heap.size 5 1 v' (dgs (s.data.toList.take (k + 1))).length (Lib.byteCells (dgs (s.data.toList.take (k + 1)))) := by
          rw [hts2.out, Lib.byteCells_append, List.length_append]; exact hown'
        clear hown' hgrow'
        go_wp2
        exact ⟨⟨k + 1, by omega, by go_num, ho3, hb3⟩, by simp [intOf]; omega⟩
      · have hts2 : Hid (dgs (s.data.toList.take (k + 1)) = dgs (s.data.toList.take k)) := by
          show _ = _; rw [hts.out, if_neg h48, List.append_nil]
        clear hts
        have h48' : (s[k]'hlt).toNat < 48 ∨ (48 ≤ (s[k]'hlt).toNat ∧ 57 < (s[k]'hlt).toNat) := by omega
        clear h48
        rcases h48' with h48 | ⟨h48a, h48b⟩
        all_goals
          go_wp2
          exact ⟨⟨k + 1, by omega, by go_num, by rw [hts2.out]; exact ho, hb⟩, by simp [intOf]; omega⟩
    · have he := dgs_end s k hlt
      rw [he] at ho
      clear he
      have hcv := conv_own wr w.heap.size u4 _ ho
      go_wp2
      go_ret
      exact ⟨rfl, hb⟩

theorem law_any (s : ByteArray) (w : World) (h0 : s.size ≤ maxLen) :
    Calls Try.prog 6 #[.string s] w fun e w' => e = .returned (.bool true) ∧ Below w.heap.size w w' := by
  by_cases h : s.size ≤ 1048576
  · exact law_short s w h
  · exact law_long s w h0 (by omega)
end Go.Proofs.Qxb6602690a
