/- FnParseUsageLineMatchesModel returns true. -/
import Derived.Test.Qxb6603014aDoorModel
import Derived.Test.Qxb6603014aDoorReads
namespace Go.Proofs.Qxb6603014aDoor
open Go.RowKit
set_option linter.unusedVariables false

theorem ok_tok (l : List UInt8) : okI l = tokOk l ∧ (tokOk l = true → numI l = tokVal l) := by
  have h := parseI l
  cases e : tokOk l with
  | true =>
    have := h.1 e
    unfold okI numI
    rw [this]
    exact ⟨rfl, fun _ => rfl⟩
  | false =>
    have := h.2 e
    refine ⟨?_, fun x => by cases x⟩
    unfold okI
    split
    · rename_i v hv; exact absurd hv (this v)
    · rfl
/-- What the law asks of the two answers. -/
def Agree (u : Int × Int × Bool) (m : Int × Int × Bool × Bool) : Prop :=
  (u.2.2 = true ∧ m.2.2.1 = true ∧ u.1 = m.1 ∧ u.2.1 = m.2.1) ∨ (u.2.2 = false ∧ m.2.2.1 = false ∧ m.2.2.2 = true) ∨ (u = (0, 0, false) ∧ m.2.2.1 = false ∧ m.2.2.2 = false)
theorem agree (l : List UInt8) : Agree (usage l) (model l) := by
  cases hall : l.all okB with
  | false => rw [usage_bad l hall, model_bad l hall]; exact .inr (.inr ⟨rfl, rfl, rfl⟩)
  | true =>
    by_cases h2 : (Lib.fields l).length = 2
    · obtain ⟨a, b, hf⟩ : ∃ a b, Lib.fields l = [a, b] := by
        match hf : Lib.fields l, h2 with
        | [a, b], _ => exact ⟨a, b, rfl⟩
      rw [usage_two l a b hall hf, model_two l a b hall hf]
      have ha := ok_tok a
      have hb := ok_tok b
      rw [ha.1, hb.1]
      cases ea : tokOk a <;> cases eb : tokOk b
      · exact .inr (.inl ⟨rfl, rfl, rfl⟩)
      · exact .inr (.inl ⟨rfl, rfl, rfl⟩)
      · exact .inr (.inl ⟨rfl, rfl, rfl⟩)
      · exact .inl ⟨rfl, rfl, ha.2 ea, hb.2 eb⟩
    · rw [usage_none l h2, model_none l h2]; exact .inr (.inr ⟨rfl, rfl, rfl⟩)

theorem bytes8 (s : ByteArray) (w : World) (hs : (s.size : Int) ≤ 1048576) :
    Calls Tryd.prog 8 #[.string s] w fun e w' => e = .returned (.bool true) ∧ w = w' := by
  go_enter Tryd.func8, Tryd.ntmps8
  go_wp2
  go_ret
  exact ⟨rfl, rfl⟩
theorem matches_long (s : ByteArray) (w : World) (h0 : s.size ≤ maxLen) (hs : 1048576 < (s.size : Int)) :
    Calls Tryd.prog 4 #[.string s] w fun e w' => e = .returned (.bool true) ∧ Below w.heap.size w w' := by
  unfold maxLen at h0
  go_enter Tryd.func4, Tryd.ntmps4
  go_wp2
  go_ret
  exact ⟨rfl, Below.refl _ _⟩

set_option maxHeartbeats 1000000 in
theorem matches_short (s : ByteArray) (w : World) (hs : (s.size : Int) ≤ 1048576) (env : Env w) :
    Calls Tryd.prog 4 #[.string s] w fun e w' => e = .returned (.bool true) ∧ Below w.heap.size w w' := by
  have ENV : Hid (Env w) := env
  clear env
  have HU : Hid (∀ W, Env W → Calls Tryd.prog 7 #[.string s] W fun e w' => e = UsageRet (usage s.data.toList) ∧ Below W.heap.size W w') := fun W he => export_walk s W (by omega) he
  have HM : Hid (∀ W, Calls Tryd.prog 9 #[.string s] W fun e w' => e = ModelRet (model s.data.toList) ∧ Below W.heap.size W w') := fun W => model_walk s W (by omega)
  have hag := agree s.data.toList
  generalize usage s.data.toList = u at *
  generalize model s.data.toList = m at *
  obtain ⟨u1, u2, u3⟩ := u
  obtain ⟨m1, m2, m3, m4⟩ := m
  unfold UsageRet at HU
  unfold ModelRet at HM
  simp only [Agree, Prod.mk.injEq] at hag
  rcases hag with ⟨rfl, rfl, rfl, rfl⟩ | ⟨rfl, rfl, rfl⟩ | ⟨⟨rfl, rfl, rfl⟩, rfl, rfl⟩
  all_goals
    go_enter Tryd.func4, Tryd.ntmps4
    go_wp2_with (go_at_call 8; refine (bytes8 _ _ hs).mono ?_; rintro e w' ⟨rfl, rfl⟩)
    refine (HU.out _ ENV.out).mono ?_
    rintro e w1 ⟨rfl, hb1⟩
    have HB1 : Hid (Below w.heap.size w w1) := hb1
    clear hb1
    go_wp2_with fail
    refine (HM.out _).mono ?_
    rintro e w2 ⟨rfl, hb2⟩
    have hz : w1.heap.size < w2.heap.size := by have := hb2.size; simp at this; omega
    obtain ⟨hc, hf⟩ := bcell hb2
    have c0 := hc w1.heap.size 0 (by simp)
    have c1 := hc w1.heap.size 1 (by simp)
    have HB2 : Hid (Below w.heap.size w w2) := (HB1.out.alloc HB1.out.size _).trans (hb2.mono (by have := HB1.out.size; simp; omega))
    clear hb2 hc hf
    simp [go_sem] at c0 c1
    go_wp2
    go_ret
    exact ⟨rfl, HB2.out⟩

theorem matches_walk (s : ByteArray) (w : World) (h0 : s.size ≤ maxLen) (env : Env w) :
    Calls Tryd.prog 4 #[.string s] w fun e w' => e = .returned (.bool true) ∧ Below w.heap.size w w' := by
  by_cases h : (s.size : Int) ≤ 1048576
  · exact matches_short s w h env
  · exact matches_long s w h0 (by omega)
end Go.Proofs.Qxb6603014aDoor
