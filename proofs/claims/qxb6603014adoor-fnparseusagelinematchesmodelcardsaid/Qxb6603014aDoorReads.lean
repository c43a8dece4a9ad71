/- FnParseUsageLineReadsWhatIsWritten returns true. -/
import Derived.Test.Qxb6603014aDoorItoa
namespace Go.Proofs.Qxb6603014aDoor
open Go.RowKit
set_option linter.unusedVariables false

set_option maxHeartbeats 1000000 in
theorem export_walk (s : ByteArray) (w : World) (hs : s.size ≤ 1048600) (env : Env w) :
    Calls Tryd.prog 7 #[.string s] w fun e w' => e = UsageRet (usage s.data.toList) ∧ Below w.heap.size w w' := by
  have env0 : Hid (∀ o, Env (w.alloc o)) := fun o => env.below ((Below.refl _ _).alloc (Nat.le_refl _) _)
  clear env
  have H : Hid (∀ W : World, Env W → Calls Tryd.prog 11 #[.string s] W fun e w' => e = UsageRet (usage s.data.toList) ∧ Below W.heap.size W w') := fun W he => usage_walk s W hs he
  generalize usage s.data.toList = r at *
  obtain ⟨x, y, b⟩ := r
  go_enter Tryd.func7, Tryd.ntmps7
  go_wp2_with fail
  refine (H.out _ (env0.out _)).mono ?_
  rintro e w1 ⟨rfl, hb⟩
  obtain ⟨hc, hf⟩ := bcell hb
  have hz : w.heap.size < w1.heap.size := by have := hb.size; simp at this; omega
  have HB : Hid _ := hb
  clear hb
  have c0 : w1.cell? ⟨w.heap.size, 0, none⟩ = some (.int .i64 0) := by rw [hc _ _ (by simp)]; simp [go_sem]
  have c1 : w1.cell? ⟨w.heap.size, 1, none⟩ = some (.int .i64 0) := by rw [hc _ _ (by simp)]; simp [go_sem]
  have f0 : w1.frozen? ⟨w.heap.size, 0, none⟩ = false := by rw [hf _ _ (by simp)]; simp [go_sem]
  have f1 : w1.frozen? ⟨w.heap.size, 1, none⟩ = false := by rw [hf _ _ (by simp)]; simp [go_sem]
  have BE : Hid (Below w.heap.size w w1) := ((Below.refl _ _).alloc (Nat.le_refl _) _).trans (HB.out.mono (by simp))
  clear hc hf HB
  simp only [UsageRet]
  go_wp2
  refine bodyPost_ret (v := .tuple #[.agg #[.int .i64 x, .int .i64 y], .bool b]) (by simp [results, Tryd.results7, go_sem, c0, c1]) rfl ⟨rfl, ?_⟩
  exact (BE.out.setCell (Nat.le_refl _) _).setCell (Nat.le_refl _) _

/-- What parseUsageLine makes of the line that the law writes. -/
theorem usage_line (a b : Int) (a0 : -9223372036854775808 ≤ a) (a1 : a ≤ 9223372036854775807) (b0 : -9223372036854775808 ≤ b) (b1 : b ≤ 9223372036854775807) : usage (itoa a ++ 32 :: (itoa b ++ [10])) = (a, b, true) := by
  have hc : ∀ n c, c ∈ itoa n → Lib.isSp c = false ∧ okB c = true := fun n c h => by
    have := itoa_mem n c h
    exact ⟨isSp_not c (by omega), okB_mk (by omega)⟩
  have hf := fields_line (itoa a) (itoa b) (fun c h => (hc a c h).1) (fun c h => (hc b c h).1) (itoa_ne a) (itoa_ne b)
  have hall : (itoa a ++ 32 :: (itoa b ++ [10])).all okB = true := by
    rw [List.all_eq_true]
    intro c h
    rcases List.mem_append.1 h with h | h
    · exact (hc a c h).2
    · rcases List.mem_cons.1 h with rfl | h
      · decide
      · rcases List.mem_append.1 h with h | h
        · exact (hc b c h).2
        · rw [List.mem_singleton] at h; subst h; decide
  rw [usage_two _ _ _ hall hf]
  unfold numI okI
  rw [parse_itoa a a0 a1, parse_itoa b b0 b1]
  rfl

set_option maxHeartbeats 1000000 in
theorem reads_walk (a b : Int) (w : World) (a0 : -9223372036854775808 ≤ a) (a1 : a ≤ 9223372036854775807) (b0 : -9223372036854775808 ≤ b) (b1 : b ≤ 9223372036854775807) (env : Env w) :
    Calls Tryd.prog 3 #[.int .i64 a, .int .i64 b] w fun e w' => e = .returned (.bool true) ∧ Below w.heap.size w w' := by
  have ENV : Hid (Env w) := env
  clear env
  obtain ⟨sa, hsa⟩ : ∃ s : ByteArray, s = ⟨(itoa a).toArray⟩ := ⟨_, rfl⟩
  obtain ⟨sb, hsb⟩ : ∃ s : ByteArray, s = ⟨(itoa b).toArray⟩ := ⟨_, rfl⟩
  have za : sa.size ≤ 21 := by rw [hsa]; show (itoa a).toArray.size ≤ 21; have := itoa_len a; simpa using this
  have zb : sb.size ≤ 21 := by rw [hsb]; show (itoa b).toArray.size ≤ 21; have := itoa_len b; simpa using this
  have CA : Hid (∀ W, Calls Tryd.prog 6 #[.int .i64 a] W fun e w' => e = .returned (.string sa) ∧ Below W.heap.size W w') := by
    intro W; rw [hsa]; exact itoa_any a W a0 a1
  have CB : Hid (∀ W, Calls Tryd.prog 6 #[.int .i64 b] W fun e w' => e = .returned (.string sb) ∧ Below W.heap.size W w') := by
    intro W; rw [hsb]; exact itoa_any b W b0 b1
  have CU : Hid (∀ W, Env W → Calls Tryd.prog 7 #[.string (sa ++ { data := #[32] } ++ sb ++ { data := #[10] })] W fun e w' => e = .returned (.tuple #[.agg #[.int .i64 a, .int .i64 b], .bool true]) ∧ Below W.heap.size W w') := by
    intro W he
    have e1 : (sa ++ { data := #[32] } ++ sb ++ { data := #[10] }).data.toList = itoa a ++ 32 :: (itoa b ++ [10]) := by
      rw [hsa, hsb]; simp
    have hz : (sa ++ { data := #[32] } ++ sb ++ { data := #[10] }).size ≤ 1048600 := by
      rw [← size_len, e1]
      have := itoa_len a
      have := itoa_len b
      simp; omega
    have := export_walk _ W hz he
    rw [e1, usage_line a b a0 a1 b0 b1] at this
    exact this
  clear hsa hsb
  go_enter Tryd.func3, Tryd.ntmps3
  go_wp2_with fail
  refine (CA.out _).mono ?_
  rintro e w1 ⟨rfl, hb1⟩
  have HB1 : Hid (Below w.heap.size w w1) := hb1
  clear hb1
  go_wp2_with fail
  refine (CB.out _).mono ?_
  rintro e w2 ⟨rfl, hb2⟩
  have HB2 : Hid (Below w.heap.size w w2) := HB1.out.trans (hb2.mono HB1.out.size)
  clear hb2 HB1
  go_wp2_with fail
  refine (CU.out _ (ENV.out.below HB2.out)).mono ?_
  rintro e w3 ⟨rfl, hb3⟩
  have HB3 : Hid (Below w.heap.size w w3) := HB2.out.trans (hb3.mono HB2.out.size)
  have hz3 : Hid (w.heap.size ≤ w3.heap.size) := HB3.out.size
  clear hb3 HB2
  go_wp2
  go_ret
  exact ⟨rfl, HB3.out.alloc hz3.out _⟩
end Go.Proofs.Qxb6603014aDoor
