/- zzUsageModel, walked. -/
import Derived.Test.Qxb6603014aDoorUsage
import Derived.Test.Qxb6603014aDoorTok
import Derived.Test.Qxb6603014aDoorScanPlain
namespace Go.Proofs.Qxb6603014aDoor
open Go.RowKit
set_option linter.unusedVariables false

/-- What zzUsageModel hands back. -/
def model (l : List UInt8) : Int × Int × Bool × Bool :=
  if l.all okB = true then (match Lib.fields l with | [a, b] => (if (tokOk a && tokOk b) = true then (tokVal a, tokVal b, true, true) else (0, 0, false, true)) | _ => (0, 0, false, false)) else (0, 0, false, false)
def ModelRet (r : Int × Int × Bool × Bool) : Ending := .returned (.tuple #[.int .i64 r.1, .int .i64 r.2.1, .bool r.2.2.1, .bool r.2.2.2])
theorem model_bad (l : List UInt8) (h : l.all okB = false) : model l = (0, 0, false, false) := by unfold model; rw [h]; rfl
theorem model_none (l : List UInt8) (h : (Lib.fields l).length ≠ 2) : model l = (0, 0, false, false) := by
  unfold model
  split
  · split
    · rename_i e; rw [e] at h; exact absurd rfl h
    · rfl
  · rfl
theorem model_two (l a b : List UInt8) (h : l.all okB = true) (hf : Lib.fields l = [a, b]) : model l = if (tokOk a && tokOk b) = true then (tokVal a, tokVal b, true, true) else (0, 0, false, true) := by
  unfold model; rw [if_pos h, hf]
theorem at_list (s : ByteArray) (k : Nat) (h : k < s.data.toList.length) : s.data.toList[k] = s[k]'(by rw [size_len] at h; exact h) := rfl
theorem okB_sp (c : UInt8) : okB c = (Lib.isSp c || decide (c.toNat = 43) || decide (c.toNat = 45) || decide (48 ≤ c.toNat ∧ c.toNat ≤ 57)) := by
  rw [isSp_num, Bool.eq_iff_iff]
  unfold okB
  simp only [Bool.or_eq_true, decide_eq_true_iff]
  omega

theorem extract_seg (s : ByteArray) (a b : Nat) : (s.extract a b).data.toList = (s.data.toList.drop a).take (b - a) := by
  rw [ByteArray.data_extract, Array.toList_extract, List.extract_eq_take_drop]

set_option maxHeartbeats 2000000 in
theorem model_walk (s : ByteArray) (w : World) (hs : s.size ≤ 1048576) :
    Calls Tryd.prog 9 #[.string s] w fun e w' => e = ModelRet (model s.data.toList) ∧ Below w.heap.size w w' := by
  go_enter Tryd.func9, Tryd.ntmps9
  go_wp2
  go_loop [6] (fun i => ∃ k : Nat, k ≤ s.size ∧ i = .int .i64 k ∧ (s.data.toList.take k).all okB = true) (fun i => s.size - (intOf i).toNat)
  case atStart => exact ⟨0, Nat.zero_le _, rfl, by simp⟩
  case round =>
    obtain ⟨k, hk, rfl, hal⟩ := hrel
    have HA : Hid ((s.data.toList.take k).all okB = true) := hal
    clear hal
    by_cases hlt : k < s.size
    · have hlti : (k : Int) < (s.size : Int) := by omega
      have HN : Hid (okB s[k] = true → (s.data.toList.take (k + 1)).all okB = true) := fun h => all_next s k hlt HA.out h
      have HBad : Hid (okB s[k] = false → model s.data.toList = (0, 0, false, false)) := fun h => model_bad _ (bad_all s k hlt h)
      have HOK : Hid (okB s[k] = (Lib.isSp s[k] || decide (s[k].toNat = 43) || decide (s[k].toNat = 45) || decide (48 ≤ s[k].toNat ∧ s[k].toNat ≤ 57))) := okB_sp _
      clear HA
      have acc : Hid (okB s[k] = true → ((∃ k' : Nat, k' ≤ s.size ∧ Value.int IntKind.i64 ((k : Int) + 1) = .int .i64 k' ∧ (s.data.toList.take k').all okB = true) ∧ s.size - (intOf (Value.int IntKind.i64 ((k : Int) + 1))).toNat < s.size - (intOf (Value.int IntKind.i64 (k : Int))).toNat)) :=
        fun h => ⟨⟨k + 1, by omega, by go_num, HN.out h⟩, by simp [intOf]; omega⟩
      cases hsp : Lib.isSp s[k]
      · have hcs : s[k].toNat = 43 ∨ (s[k].toNat ≠ 43 ∧ s[k].toNat = 45) ∨ (s[k].toNat ≠ 43 ∧ s[k].toNat ≠ 45 ∧ 48 ≤ s[k].toNat ∧ s[k].toNat ≤ 57) ∨ (s[k].toNat ≠ 43 ∧ s[k].toNat ≠ 45 ∧ 48 ≤ s[k].toNat ∧ 57 < s[k].toNat) ∨ (s[k].toNat ≠ 43 ∧ s[k].toNat ≠ 45 ∧ s[k].toNat < 48) := by omega
        have OK : Hid (okB s[k] = true ∨ okB s[k] = false ∧ ¬ (s[k].toNat = 43 ∨ s[k].toNat = 45 ∨ (48 ≤ s[k].toNat ∧ s[k].toNat ≤ 57))) := by
          show _ ∨ _
          rw [HOK.out, hsp]
          by_cases e : s[k].toNat = 43 ∨ s[k].toNat = 45 ∨ (48 ≤ s[k].toNat ∧ s[k].toNat ≤ 57)
          · refine .inl ?_
            simp only [Bool.false_or, Bool.or_eq_true, decide_eq_true_iff]; omega
          · refine .inr ⟨?_, e⟩
            simp only [Bool.false_or, Bool.or_eq_false_iff, decide_eq_false_iff_not]; omega
        have tf : ∀ n : Nat, s[k].toNat ≠ n → ((s[k].toNat : Int) == (n : Int)) = false := fun n hn => by rw [beq_eq_false_iff_ne]; omega
        have tt : ∀ n : Nat, s[k].toNat = n → ((s[k].toNat : Int) == (n : Int)) = true := fun n hn => by rw [beq_iff_eq]; omega
        have T43 : Hid _ := tf 43
        have T45 : Hid _ := tf 45
        have U43 : Hid _ := tt 43
        have U45 : Hid _ := tt 45
        clear tf tt
        rcases hcs with h1 | ⟨h1, h2⟩ | ⟨h1, h2, h3, h4⟩ | ⟨h1, h2, h3, h4⟩ | ⟨h1, h2, h3⟩
        · have t1 : ((s[k].toNat : Int) == 43) = true := U43.out h1
          have OK' : Hid (okB s[k] = true) := by rcases OK.out with h | ⟨_, h⟩; exact h; exact absurd (.inl h1) h
          clear h1 OK
          go_wp2_with (go_at_call 12; refine (isSpace_any (s[k]'hlt) _).mono ?_; rintro e w' ⟨rfl, rfl⟩)
          exact acc.out OK'.out
        · have t1 : ((s[k].toNat : Int) == 43) = false := T43.out h1
          have t2 : ((s[k].toNat : Int) == 45) = true := U45.out h2
          have OK' : Hid (okB s[k] = true) := by rcases OK.out with h | ⟨_, h⟩; exact h; exact absurd (.inr (.inl h2)) h
          clear h1 h2 OK
          go_wp2_with (go_at_call 12; refine (isSpace_any (s[k]'hlt) _).mono ?_; rintro e w' ⟨rfl, rfl⟩)
          exact acc.out OK'.out
        · have t1 : ((s[k].toNat : Int) == 43) = false := T43.out h1
          have t4 : decide ((s[k].toNat : Int) ≤ 57) = true := decide_eq_true (by omega)
          have t2 : ((s[k].toNat : Int) == 45) = false := T45.out h2
          have OK' : Hid (okB s[k] = true) := by rcases OK.out with h | ⟨_, h⟩; exact h; exact absurd (.inr (.inr ⟨h3, h4⟩)) h
          clear h1 h2 OK
          go_wp2_with (go_at_call 12; refine (isSpace_any (s[k]'hlt) _).mono ?_; rintro e w' ⟨rfl, rfl⟩)
          exact acc.out OK'.out
        · have t1 : ((s[k].toNat : Int) == 43) = false := T43.out h1
          have t4 : decide ((s[k].toNat : Int) ≤ 57) = false := decide_eq_false (by omega)
          have t2 : ((s[k].toNat : Int) == 45) = false := T45.out h2
          have OK' : Hid (okB s[k] = false) := by rcases OK.out with h | ⟨h, _⟩; (exfalso; rw [HOK.out, hsp] at h; simp only [Bool.false_or, Bool.or_eq_true, decide_eq_true_iff] at h; omega); exact h
          clear h1 h2 OK
          go_wp2_with (go_at_call 12; refine (isSpace_any (s[k]'hlt) _).mono ?_; rintro e w' ⟨rfl, rfl⟩)
          refine bodyPost_ret (v := .tuple #[.int .i64 0, .int .i64 0, .bool false, .bool false]) (by simp [results, Tryd.results9, go_sem]) rfl ⟨?_, Below.refl _ _⟩
          rw [HBad.out OK'.out]; rfl
        · have t1 : ((s[k].toNat : Int) == 43) = false := T43.out h1
          have t2 : ((s[k].toNat : Int) == 45) = false := T45.out h2
          have OK' : Hid (okB s[k] = false) := by rcases OK.out with h | ⟨h, _⟩; (exfalso; rw [HOK.out, hsp] at h; simp only [Bool.false_or, Bool.or_eq_true, decide_eq_true_iff] at h; omega); exact h
          clear h1 h2 OK
          go_wp2_with (go_at_call 12; refine (isSpace_any (s[k]'hlt) _).mono ?_; rintro e w' ⟨rfl, rfl⟩)
          refine bodyPost_ret (v := .tuple #[.int .i64 0, .int .i64 0, .bool false, .bool false]) (by simp [results, Tryd.results9, go_sem]) rfl ⟨?_, Below.refl _ _⟩
          rw [HBad.out OK'.out]; rfl
      · have OK' : Hid (okB s[k] = true) := by show _ = _; rw [HOK.out, hsp]; rfl
        go_wp2_with (go_at_call 12; refine (isSpace_any (s[k]'hlt) _).mono ?_; rintro e w' ⟨rfl, rfl⟩)
        exact acc.out OK'.out
    · have hall : Hid (s.data.toList.all okB = true) := by rw [← take_all s k hlt]; exact HA.out
      clear HA
      go_wp2
      go_loop [8, 9, 10, 11, 12, 13] (fun n s0 e0 s1 e1 i => ∃ (N a b c d q : Nat) (fs : List (List UInt8)), n = .int .i64 N ∧ s0 = .int .i64 a ∧ e0 = .int .i64 b ∧ s1 = .int .i64 c ∧ e1 = .int .i64 d ∧ i = .int .i64 q ∧ Scan s.data.toList N a b c d q fs) (fun _ _ _ _ _ i => s.size - (intOf i).toNat)
      case atStart => exact ⟨0, 0, 0, 0, 0, 0, [], rfl, rfl, rfl, rfl, rfl, rfl, scan_start _⟩
      case round =>
        obtain ⟨N, a, b, c, d, q, fs, rfl, rfl, rfl, rfl, rfl, rfl, hscan⟩ := hrel
        have hq : q ≤ s.size := by have := hscan.1; rw [size_len] at this; exact this
        have hNq : N ≤ q := hscan.2.2.1
        have HS : Hid (Scan s.data.toList N a b c d q fs) := hscan
        clear hscan
        by_cases hql : q < s.size
        · have hqi : (q : Int) < (s.size : Int) := by omega
          cases hsp : Lib.isSp (s[q]'hql)
          · go_wp2_with (go_at_call 12; refine (isSpace_any (s[q]'hql) _).mono ?_; rintro e w' ⟨rfl, rfl⟩)
            go_loop [14] (fun j => ∃ r : Nat, q < r + 1 ∧ q ≤ r ∧ r ≤ s.size ∧ j = .int .i64 r ∧ ∀ m (hm : m < s.data.toList.length), q ≤ m → m < r → Lib.isSp s.data.toList[m] = false) (fun j => s.size - (intOf j).toNat)
            case atStart => exact ⟨q, by omega, Nat.le_refl _, by omega, rfl, fun m hm h1 h2 => by omega⟩
            case round =>
              obtain ⟨r, _, hqr, hr, rfl, hrun⟩ := hrel
              have HRUN : Hid (∀ m (hm : m < s.data.toList.length), q ≤ m → m < r → Lib.isSp s.data.toList[m] = false) := hrun
              have hqr0 : Hid (r = q → ∀ (hm : r < s.data.toList.length), Lib.isSp s.data.toList[r] = false) := fun e hm => by subst e; exact hsp
              clear hrun
              by_cases hgo : ∃ hrl : r < s.size, Lib.isSp (s[r]'hrl) = false
              · obtain ⟨hrl, hrs⟩ := hgo
                have hri : (r : Int) < (s.size : Int) := by omega
                have HR2 : Hid (∀ m (hm : m < s.data.toList.length), q ≤ m → m < r + 1 → Lib.isSp s.data.toList[m] = false) := fun m hm h1 h2 => by
                  by_cases e : m = r
                  · subst e; exact hrs
                  · exact HRUN.out m hm h1 (by omega)
                clear HRUN hqr0
                go_wp2_with (go_at_call 12; refine (isSpace_any (s[r]'hrl) _).mono ?_; rintro e w' ⟨rfl, rfl⟩)
                exact ⟨⟨r + 1, by omega, by omega, by omega, by go_num, HR2.out⟩, by simp [intOf]; omega⟩
              · have hqlt : q < r := by
                  rcases Nat.lt_or_ge q r with h | h
                  · exact h
                  · exfalso
                    have e : r = q := by omega
                    subst e
                    exact hgo ⟨hql, hsp⟩
                have HEND : Hid (∀ (hm : r < s.data.toList.length), Lib.isSp s.data.toList[r] = true) := fun hm => by
                  cases e : Lib.isSp s.data.toList[r] with
                  | true => rfl
                  | false => exact absurd ⟨by rw [size_len] at hm; exact hm, e⟩ hgo
                have hrl' : r ≤ s.data.toList.length := by rw [size_len]; exact hr
                have hex : ¬ r < s.size ∨ ∃ hrl : r < s.size, Lib.isSp (s[r]'hrl) = true := by
                  by_cases e : r < s.size
                  · exact .inr ⟨e, HEND.out (by rw [size_len]; exact e)⟩
                  · exact .inl e
                clear hgo hqr0
                by_cases hN0 : N = 0
                · subst hN0
                  obtain ⟨gs, hsc⟩ := scan_first HS.out r hqlt hrl' HRUN.out HEND.out
                  have HSC : Hid (Scan s.data.toList 1 q r c d r gs) := hsc
                  clear hsc HRUN HEND HS
                  rcases hex with hx | ⟨hrl, hrs⟩
                  · have hd0 : decide ((r : Int) < (s.size : Int)) = false := decide_eq_false (by omega)
                    go_wp2
                    exact ⟨⟨1, q, r, c, d, r, gs, rfl, rfl, rfl, rfl, rfl, rfl, HSC.out⟩, by simp [intOf]; omega⟩
                  · have hri : (r : Int) < (s.size : Int) := by omega
                    go_wp2_with (go_at_call 12; refine (isSpace_any (s[r]'hrl) _).mono ?_; rintro e w' ⟨rfl, rfl⟩)
                    exact ⟨⟨1, q, r, c, d, r, gs, rfl, rfl, rfl, rfl, rfl, rfl, HSC.out⟩, by simp [intOf]; omega⟩
                · by_cases hN1 : N = 1
                  · subst hN1
                    obtain ⟨gs, hsc⟩ := scan_second HS.out r hqlt hrl' HRUN.out HEND.out
                    have HSC : Hid (Scan s.data.toList 2 a b q r r gs) := hsc
                    clear hsc HRUN HEND HS hN0
                    rcases hex with hx | ⟨hrl, hrs⟩
                    · have hd0 : decide ((r : Int) < (s.size : Int)) = false := decide_eq_false (by omega)
                      go_wp2
                      exact ⟨⟨2, a, b, q, r, r, gs, rfl, rfl, rfl, rfl, rfl, rfl, HSC.out⟩, by simp [intOf]; omega⟩
                    · have hri : (r : Int) < (s.size : Int) := by omega
                      go_wp2_with (go_at_call 12; refine (isSpace_any (s[r]'hrl) _).mono ?_; rintro e w' ⟨rfl, rfl⟩)
                      exact ⟨⟨2, a, b, q, r, r, gs, rfl, rfl, rfl, rfl, rfl, rfl, HSC.out⟩, by simp [intOf]; omega⟩
                  · obtain ⟨gs, hsc⟩ := scan_more HS.out (by omega) r hqlt hrl' HRUN.out HEND.out
                    have HSC : Hid (Scan s.data.toList (N + 1) a b c d r gs) := hsc
                    have hn0 : ((N : Int) == 0) = false := by rw [beq_eq_false_iff_ne]; omega
                    have hn1 : ((N : Int) == 1) = false := by rw [beq_eq_false_iff_ne]; omega
                    clear hsc HRUN HEND HS hN0 hN1
                    rcases hex with hx | ⟨hrl, hrs⟩
                    · have hd0 : decide ((r : Int) < (s.size : Int)) = false := decide_eq_false (by omega)
                      go_wp2
                      exact ⟨⟨N + 1, a, b, c, d, r, gs, by go_num, rfl, rfl, rfl, rfl, rfl, HSC.out⟩, by simp [intOf]; omega⟩
                    · have hri : (r : Int) < (s.size : Int) := by omega
                      go_wp2_with (go_at_call 12; refine (isSpace_any (s[r]'hrl) _).mono ?_; rintro e w' ⟨rfl, rfl⟩)
                      exact ⟨⟨N + 1, a, b, c, d, r, gs, by go_num, rfl, rfl, rfl, rfl, rfl, HSC.out⟩, by simp [intOf]; omega⟩
          · have HS2 : Hid (Scan s.data.toList N a b c d (q + 1) fs) := scan_space HS.out (by rw [size_len]; exact hql) hsp
            clear HS
            go_wp2_with (go_at_call 12; refine (isSpace_any (s[q]'hql) _).mono ?_; rintro e w' ⟨rfl, rfl⟩)
            exact ⟨⟨N, a, b, c, d, q + 1, fs, rfl, rfl, rfl, rfl, rfl, by go_num, HS2.out⟩, by simp [intOf]; omega⟩
        · have hse := scan_end HS.out (by rw [size_len]; exact hql)
          clear HS
          by_cases hN2 : N = 2
          · subst hN2
            obtain ⟨f0, f1, hf⟩ : ∃ f0 f1, Lib.fields s.data.toList = [f0, f1] := by
              match hf : Lib.fields s.data.toList, hse.1 with
              | [f0, f1], _ => exact ⟨f0, f1, rfl⟩
            obtain ⟨⟨g1, g2, g3⟩, ⟨g4, g5, g6⟩⟩ := hse.2 f0 f1 hf
            rw [size_len] at g2 g5
            have HM : Hid (model s.data.toList = if (tokOk f0 && tokOk f1) = true then (tokVal f0, tokVal f1, true, true) else (0, 0, false, true)) := model_two _ f0 f1 hall.out hf
            obtain ⟨t0, ht0⟩ : ∃ t : ByteArray, s.extract a b = t := ⟨_, rfl⟩
            obtain ⟨t1, ht1⟩ : ∃ t : ByteArray, s.extract c d = t := ⟨_, rfl⟩
            have e0 : t0.data.toList = f0 := by rw [← ht0, extract_seg]; exact g3
            have e1 : t1.data.toList = f1 := by rw [← ht1, extract_seg]; exact g6
            have z0 : t0.size ≤ 1048600 := by rw [← size_len, e0, ← g3, List.length_take, List.length_drop, size_len]; omega
            have z1 : t1.size ≤ 1048600 := by rw [← size_len, e1, ← g6, List.length_take, List.length_drop, size_len]; omega
            have T0 : Hid (∀ W, Calls Tryd.prog 13 #[.string t0] W fun e w' => e = TokRet f0 ∧ Below W.heap.size W w') := fun W => by have := tok_any t0 W z0; rw [e0] at this; exact this
            have T1 : Hid (∀ W, Calls Tryd.prog 13 #[.string t1] W fun e w' => e = TokRet f1 ∧ Below W.heap.size W w') := fun W => by have := tok_any t1 W z1; rw [e1] at this; exact this
            clear hse hf g3 g6 e0 e1 z0 z1 hall
            unfold TokRet at T0 T1
            cases b0 : tokOk f0 <;> cases b1 : tokOk f1
            all_goals
              rw [b0] at T0
              rw [b1] at T1
              rw [b0, b1] at HM
              clear b0 b1
              go_wp2_with fail
              refine (T0.out _).mono ?_
              rintro e w1 ⟨rfl, hb1⟩
              have HB1 : Hid (Below w.heap.size w w1) := hb1
              clear hb1
              go_wp2_with fail
              refine (T1.out _).mono ?_
              rintro e w2 ⟨rfl, hb2⟩
              have HB2 : Hid (Below w.heap.size w w2) := HB1.out.trans (hb2.mono HB1.out.size)
              clear hb2 HB1
              go_wp2
            · refine bodyPost_ret (v := .tuple #[.int .i64 0, .int .i64 0, .bool false, .bool true]) (by simp [results, Tryd.results9, go_sem]) rfl ⟨by rw [HM.out]; rfl, HB2.out⟩
            · refine bodyPost_ret (v := .tuple #[.int .i64 0, .int .i64 0, .bool false, .bool true]) (by simp [results, Tryd.results9, go_sem]) rfl ⟨by rw [HM.out]; rfl, HB2.out⟩
            · refine bodyPost_ret (v := .tuple #[.int .i64 0, .int .i64 0, .bool false, .bool true]) (by simp [results, Tryd.results9, go_sem]) rfl ⟨by rw [HM.out]; rfl, HB2.out⟩
            · refine bodyPost_ret (v := .tuple #[.int .i64 (tokVal f0), .int .i64 (tokVal f1), .bool true, .bool true]) (by simp [results, Tryd.results9, go_sem]) rfl ⟨by rw [HM.out]; rfl, HB2.out⟩
          · have HM : Hid (model s.data.toList = (0, 0, false, false)) := model_none _ (by rw [hse.1]; exact hN2)
            have hn2 : ((N : Int) != 2) = true := by rw [bne_iff_ne]; omega
            clear hse hN2 hall
            go_wp2
            refine bodyPost_ret (v := .tuple #[.int .i64 0, .int .i64 0, .bool false, .bool false]) (by simp [results, Tryd.results9, go_sem]) rfl ⟨by rw [HM.out]; rfl, Below.refl _ _⟩
end Go.Proofs.Qxb6603014aDoor
