/- phoneDigits hands back the digits. -/
import Derived.Test.Qxb6602690aRows
import Derived.Test.Qxb6602690aBuilder
import Derived.Test.Qxb6602690aPhonePlain
import Derived.WalkKit
import Derived.BigCall
namespace Go.Proofs.Qxb6602690a
open Go.RowKit
set_option linter.unusedVariables false

theorem rune_digit (c : UInt8) (h0 : 48 ≤ c.toNat) (h1 : c.toNat ≤ 57) : Lib.runeCells (c.toNat : Int) = Lib.byteCells [c] := by
  simp [Lib.runeCells, Lib.encodeRuneZ_one (r := (c.toNat : Int)) (by omega) (by omega), Lib.byteCells]

set_option maxHeartbeats 4000000 in
set_option maxRecDepth 1000000 in
theorem digits_walk (s : ByteArray) (w : World) (hs : s.size ≤ 1048576) :
    Calls Try.prog 29 #[.string s] w fun e w' => e = .returned (.string ⟨(dgs s.data.toList).toArray⟩) ∧ Below w.heap.size w w' := by
  go_enter Try.func29, Try.ntmps29
  go_wp2
  go_loopw [] (fun wr => ∃ (pos : Nat), Lib.IsBuilderF 55 5 w.heap.size w.heap.size (Lib.byteCells (dgs (s.data.toList.take pos))) wr ∧ wr.heap[w.heap.size + 1]? = some (.stringIter s pos) ∧ Below w.heap.size w wr) (fun wr => s.size - wr.iterPos (w.heap.size + 1))
  case atStart =>
    refine ⟨0, (Lib.IsBuilderF.of (Lib.fresh_isBuilder 55 5 w)).alloc _, ?_, ((Below.refl _ w).alloc (Nat.le_refl _) _).alloc (by simp) _⟩
    have := World.iter_heap (w.alloc (.cells #[.pointer none, .slice none 0 0] 55)) s 0
    simpa using this
  case round =>
    obtain ⟨pos, hI, hit, hbw⟩ := hrel
    have hsz : w.heap.size + 1 < wr.heap.size := (Array.getElem?_eq_some_iff.1 hit).1
    by_cases hp : pos < s.size
    · have hnx : ∀ ty, (Instr.next (.pointer (some ⟨w.heap.size + 1, 0, none⟩)) true ty).run Try.prog wr = _ := fun ty => Lib.run_next_any_at wr (w.heap.size + 1) s pos ty hit hp
      have hI2 := hI.iterAt hit (pos + (Utf8.decode s pos).2)
      have hit2 := Lib.iterAt_heap wr (w.heap.size + 1) s pos (pos + (Utf8.decode s pos).2) hit
      have hbw2 := Lib.below_iterAt hbw (k := w.heap.size + 1) (by omega) s (pos + (Utf8.decode s pos).2)
      have hsz2 : w.heap.size ≤ (wr.iterAt (w.heap.size + 1) s (pos + (Utf8.decode s pos).2)).heap.size := by rw [Lib.iterAt_size]; omega
      have hdl := dgs_le s pos
      by_cases ha : (s[pos]'hp).toNat < 128
      · have hd := decode_ascii s pos hp ha
        rw [hd] at hnx hI2 hit2 hbw2 hsz2
        simp only at hnx hI2 hit2 hbw2 hsz2
        have hts : Hid (dgs (s.data.toList.take (pos + 1)) = dgs (s.data.toList.take pos) ++ if 48 ≤ (s[pos]'hp).toNat ∧ (s[pos]'hp).toNat ≤ 57 then [s[pos]'hp] else []) := by
          show _ = _
          rw [take_snoc s pos hp, dgs_snoc]
        clear hd
        by_cases h48 : 48 ≤ (s[pos]'hp).toNat ∧ (s[pos]'hp).toNat ≤ 57
        · have hrd : Hid (Lib.runeCells ((s[pos]'hp).toNat : Int) = Lib.byteCells [s[pos]'hp]) := rune_digit _ h48.1 h48.2
          have hts2 : Hid (dgs (s.data.toList.take (pos + 1)) = dgs (s.data.toList.take pos) ++ [s[pos]'hp]) := by
            show _ = _; rw [hts.out, if_pos h48]
          clear hts
          obtain ⟨h48a, h48b⟩ := h48
          generalize s[pos]'hp = c at *
          go_wp2_with (go_at_call 30; refine (writeRune_any w.heap.size w.heap.size _ _ (by omega) (by omega) _ hI2 (by rw [Lib.byteCells_length]; omega) hsz2).mono ?_)
          rintro e W1 ⟨rfl, h1, b1, k1⟩
          rw [hrd.out, ← Lib.byteCells_append, ← hts2.out] at h1
          go_wp2
          go_roundw
          case rel => exact ⟨pos + 1, Or.inr h1, k1.iter hit2 (by omega), hbw2.trans b1⟩
          case measure =>
            simp only [World.iterPos, k1.iter hit2 (by omega), hit]
            omega
        · have hts2 : Hid (dgs (s.data.toList.take (pos + 1)) = dgs (s.data.toList.take pos)) := by
            show _ = _; rw [hts.out, if_neg h48, List.append_nil]
          clear hts
          have h48' : (s[pos]'hp).toNat < 48 ∨ (48 ≤ (s[pos]'hp).toNat ∧ 57 < (s[pos]'hp).toNat) := by omega
          clear h48
          generalize s[pos]'hp = c at *
          rcases h48' with h48 | ⟨h48a, h48b⟩
          all_goals
            go_wp2
            go_roundw
            case rel => exact ⟨pos + 1, by rw [hts2.out]; exact hI2, hit2, hbw2⟩
            case measure =>
              simp only [World.iterPos, hit2, hit]
              omega
      · have hh := decode_high s pos hp (by omega)
        have hsk : Hid (dgs (s.data.toList.take (pos + (Utf8.decode s pos).2)) = dgs (s.data.toList.take pos)) := dgs_skip s pos hp (by omega)
        have hdl2 := decode_le s pos
        generalize Utf8.decode s pos = rd at *
        obtain ⟨r, wd⟩ := rd
        simp only at *
        go_wp2
        go_roundw
        case rel => exact ⟨pos + wd, by rw [hsk.out]; exact hI2, hit2, hbw2⟩
        case measure =>
          simp only [World.iterPos, hit2, hit]
          omega
    · have hnx : ∀ ty, (Instr.next (.pointer (some ⟨w.heap.size + 1, 0, none⟩)) true ty).run Try.prog wr = _ := fun ty => Lib.run_next_end_at wr (w.heap.size + 1) s pos ty hit hp
      have he := dgs_end s pos hp
      rw [he] at hI
      clear he
      go_wp2_with (go_at_call 31; refine (Try.Builder_String_any_k w.heap.size w.heap.size _ _ hI (by omega)).mono ?_)
      rintro e W1 ⟨rfl, _, b1, _⟩
      go_wp2
      go_ret
      exact ⟨rfl, hbw.trans b1⟩
end Go.Proofs.Qxb6602690a
