/- zzToken, walked. -/
import Derived.Test.Qxb6603014aDoorTok2
namespace Go.Proofs.Qxb6603014aDoor
open Go.RowKit
set_option linter.unusedVariables false

theorem tok_nil (t : ByteArray) (w : World) (h : t.size = 0) :
    Calls Tryd.prog 13 #[.string t] w fun e w' => e = TokRet t.data.toList ∧ Below w.heap.size w w' := by
  have HN : Hid (tokOk t.data.toList = false) := tok_empty _ (by
    have : t.data.toList = [] := List.eq_nil_of_length_eq_zero (by rw [sz]; exact h)
    rw [this]; rfl)
  have h1 : ((0 : Int) == (t.size : Int)) = true := by rw [h]; rfl
  have h2 : ¬ (0 : Int) < (t.size : Int) := by omega
  clear h
  go_enter Tryd.func13, Tryd.ntmps13
  go_wp2
  go_ret2
  exact ⟨ret_no HN.out, Below.refl _ _⟩

theorem digit_at (d : ByteArray) (m : Nat) (h : m < d.size) (ha : d.data.toList.all isD = true) : 48 ≤ d[m].toNat ∧ d[m].toNat ≤ 57 :=
  of_decide_eq_true (List.all_eq_true.1 ha d[m] (List.getElem_mem (l := d.data.toList) (by rw [sz]; exact h)))
theorem atlimP (d : ByteArray) (b : Bool) (w : World) (hd : d.size ≤ 1048600) (h : atMost d.data.toList limP.data.toList = b) :
    Calls Tryd.prog 16 #[.string d, .string { data := #[57, 50, 50, 51, 51, 55, 50, 48, 51, 54, 56, 53, 52, 55, 55, 53, 56, 48, 55] }] w fun e w' => e = .returned (.bool b) ∧ Below w.heap.size w w' := by
  rw [← h]; exact atMost_walk d limP w hd (by decide)
theorem atlimN (d : ByteArray) (b : Bool) (w : World) (hd : d.size ≤ 1048600) (h : atMost d.data.toList limN.data.toList = b) :
    Calls Tryd.prog 16 #[.string d, .string { data := #[57, 50, 50, 51, 51, 55, 50, 48, 51, 54, 56, 53, 52, 55, 55, 53, 56, 48, 56] }] w fun e w' => e = .returned (.bool b) ∧ Below w.heap.size w w' := by
  rw [← h]; exact atMost_walk d limN w hd (by decide)

set_option maxHeartbeats 2000000 in
theorem tok_plain (t : ByteArray) (w : World) (hp : 0 < t.size) (hs : t.size ≤ 1048600) (hc : ¬ (t[0].toNat = 43 ∨ t[0].toNat = 45)) :
    Calls Tryd.prog 13 #[.string t] w fun e w' => e = TokRet t.data.toList ∧ Below w.heap.size w w' := by
  have HR : Hid (restT t.data.toList = t.data.toList.drop 0) := (rest_plain t hp hc).1
  have HNG : Hid (negT t.data.toList = false) := (rest_plain t hp hc).2
  have HL : Hid (limT t.data.toList = 9223372036854775807) := by show _ = _; unfold limT; rw [HNG.out]; rfl
  have hp1 : (0 : Int) < (t.size : Int) := by omega
  have hc1 : ((t[0].toNat : Int) == 43) = false := by rw [beq_eq_false_iff_ne]; omega
  have hc2 : ((t[0].toNat : Int) == 45) = false := by rw [beq_eq_false_iff_ne]; omega
  have hz : ((0 : Int) == (t.size : Int)) = false := by rw [beq_eq_false_iff_ne]; omega
  clear hc
  go_enter Tryd.func13, Tryd.ntmps13
  go_wp2
  go_loop [6] (fun j => ∃ k : Nat, 0 ≤ k ∧ k ≤ t.size ∧ j = .int .i64 k ∧ ∀ m (hm : m < t.size), 0 ≤ m → m < k → isD t[m] = true) (fun j => t.size - (intOf j).toNat)
  case atStart => exact ⟨0, Nat.le_refl _, by omega, rfl, fun m hm h1 h2 => by omega⟩
  case round =>
    obtain ⟨k, hk0, hk, rfl, hal⟩ := hrel
    have HA : Hid (∀ m (hm : m < t.size), 0 ≤ m → m < k → isD t[m] = true) := hal
    clear hal
    by_cases hlt : k < t.size
    · have hlti : (k : Int) < (t.size : Int) := by omega
      by_cases hd : isD (t[k]'hlt) = true
      · have hd' := of_decide_eq_true hd
        have HA2 : Hid (∀ m (hm : m < t.size), 0 ≤ m → m < k + 1 → isD t[m] = true) := fun m hm h1 h2 => by
          by_cases e : m = k
          · subst e; exact hd
          · exact HA.out m hm h1 (by omega)
        clear HA hd
        obtain ⟨hd1, hd2⟩ := hd'
        go_wp2
        exact ⟨⟨k + 1, by omega, by omega, by go_num, HA2.out⟩, by simp [intOf]; omega⟩
      · have HN : Hid (tokOk t.data.toList = false) := tok_bad _ (by rw [HR.out]; exact bad_from t 0 k hlt hk0 (by simpa using hd))
        have hd' : (t[k]'hlt).toNat < 48 ∨ (48 ≤ (t[k]'hlt).toNat ∧ 57 < (t[k]'hlt).toNat) := by
          have : ¬ (48 ≤ (t[k]'hlt).toNat ∧ (t[k]'hlt).toNat ≤ 57) := fun e => hd (decide_eq_true e)
          omega
        clear hd HA
        rcases hd' with hd' | ⟨hd1, hd2⟩
        all_goals
          go_wp2
          go_ret2
          exact ⟨ret_no HN.out, Below.refl _ _⟩
    · have HD : Hid ((t.data.toList.drop 0).all isD = true) := all_from t 0 fun m hm h1 => HA.out m hm h1 (by omega)
      have HNE : Hid (t.data.toList.drop 0 ≠ []) := fun e => by
        have := congrArg List.length e
        rw [List.length_drop, sz] at this
        have h0 : ([] : List UInt8).length = 0 := rfl
        omega
      clear HA
      go_wp2
      go_loop [4] (fun i => ∃ q : Nat, 0 ≤ q ∧ q < t.size ∧ i = .int .i64 q ∧ strip (t.data.toList.drop q) = strip (t.data.toList.drop 0)) (fun i => t.size - (intOf i).toNat)
      case atStart => exact ⟨0, Nat.le_refl _, by omega, rfl, rfl⟩
      case round =>
        obtain ⟨q, hq0, hq, rfl, hst⟩ := hrel
        have HS : Hid (strip (t.data.toList.drop q) = strip (t.data.toList.drop 0)) := hst
        have hqi : (q : Int) < (t.size : Int) := by omega
        clear hst
        by_cases hgo : q + 1 < t.size ∧ (t[q]'hq).toNat = 48
        · obtain ⟨hg1, hg2⟩ := hgo
          have HS2 : Hid (strip (t.data.toList.drop (q + 1)) = strip (t.data.toList.drop 0)) := by show _ = _; rw [← strip_zero t q hg1 hg2]; exact HS.out
          have hg2' : (((t[q]'hq).toNat : Int) == 48) = true := by rw [hg2]; rfl
          clear hg2 HS
          go_wp2
          exact ⟨⟨q + 1, by omega, hg1, by go_num, HS2.out⟩, by simp [intOf]; omega⟩
        · have HK : Hid (strip (t.data.toList.drop 0) = t.data.toList.drop q) := by
            show _ = _
            rw [← HS.out]
            by_cases e : q + 1 = t.size
            · exact strip_last t q e
            · exact strip_keep t q hq (fun e2 => hgo ⟨by omega, e2⟩)
          obtain ⟨d, hd⟩ : ∃ d : ByteArray, t.extract q t.size = d := ⟨_, rfl⟩
          have HDD : Hid (d.data.toList = strip (t.data.toList.drop 0)) := by show _ = _; rw [← hd, extract_drop, HK.out]
          have hdz : d.size ≤ 1048600 := by
            rw [← sz, ← hd, extract_drop, List.length_drop, sz]; omega
          have hsplit : (t.size : Int) - 1 ≤ q ∨ ((q : Int) < (t.size : Int) - 1 ∧ (((t[q]'hq).toNat : Int) == 48) = false) := by
            by_cases e : (t.size : Int) - 1 ≤ q
            · exact .inl e
            · refine .inr ⟨by omega, ?_⟩
              rw [beq_eq_false_iff_ne]; intro e2; exact hgo ⟨by omega, by omega⟩
          have hall : Hid (d.data.toList.all isD = true) := by show _ = _; rw [HDD.out]; exact strip_all _ HD.out
          have hval : Hid (val d.data.toList = val (t.data.toList.drop 0)) := by show _ = _; rw [HDD.out, strip_val]
          have hat : Hid (atMost d.data.toList limP.data.toList = true ↔ val (t.data.toList.drop 0) ≤ 9223372036854775807) := by
            show _ ↔ _; rw [HDD.out]; exact limP_is _ HNE.out HD.out
          clear hgo HS HK HDD
          by_cases hle : val (t.data.toList.drop 0) ≤ 9223372036854775807
          · have HAT : Hid (atMost d.data.toList limP.data.toList = true) := hat.out.2 hle
            have HY : Hid (tokOk t.data.toList = true) := tok_yes _ (by rw [HR.out]; exact HNE.out) (by rw [HR.out]; exact HD.out) (by rw [HR.out, HL.out]; exact hle)
            have HV : Hid (val d.data.toList ≤ 9223372036854775807) := by show _ ≤ _; rw [hval.out]; exact hle
            have HT : Hid (tokVal t.data.toList = ((val d.data.toList : Nat) : Int)) := by show _ = _; unfold tokVal; rw [HNG.out, HR.out, hval.out]; rfl
            clear hat hle hval HR HNG HL
            rcases hsplit with h1 | ⟨h1, h2⟩
            all_goals
              go_wp2_with fail
              refine (atlimP d true _ hdz HAT.out).mono ?_
              rintro e w1 ⟨rfl, hb1⟩
              have HB1 : Hid (Below w.heap.size w w1) := hb1
              clear hb1
              go_wp2
              go_loop [9, 10] (fun u j => ∃ m : Nat, m ≤ d.size ∧ j = .int .i64 m ∧ u = .int .u64 ((val (d.data.toList.take m) : Nat) : Int)) (fun _ j => d.size - (intOf j).toNat)
              case atStart => exact ⟨0, Nat.zero_le _, rfl, rfl⟩
              case round =>
                obtain ⟨m, hm, rfl, rfl⟩ := hrel
                by_cases hlt2 : m < d.size
                · have hm2 : (m : Int) < (d.size : Int) := by omega
                  have hdm := digit_at d m hlt2 hall.out
                  have hvt := val_take d m hlt2
                  have hvl := val_take_le d.data.toList (m + 1)
                  have hb9 : val (d.data.toList.take m) * 10 + ((d[m]'hlt2).toNat - 48) ≤ 9223372036854775808 := by have := HV.out; omega
                  have HVT : Hid (val (d.data.toList.take (m + 1)) = val (d.data.toList.take m) * 10 + ((d[m]'hlt2).toNat - 48)) := hvt
                  clear hvt hvl
                  obtain ⟨hdm1, hdm2⟩ := hdm
                  generalize val (d.data.toList.take m) = x at *
                  go_wp2
                  exact ⟨⟨m + 1, by omega, by go_num, congrArg (Value.int .u64) (by rw [HVT.out]; omega)⟩, by simp [intOf]; omega⟩
                · have hve : d.data.toList.take m = d.data.toList := List.take_of_length_le (by rw [sz]; omega)
                  rw [hve]
                  clear hve
                  have hb9 := HV.out
                  clear HV
                  generalize val d.data.toList = x at *
                  go_wp2
                  go_ret2
                  exact ⟨ret_yes HY.out (by rw [HT.out]), HB1.out⟩
          · have HAT : Hid (atMost d.data.toList limP.data.toList = false) := by
              show _ = _
              cases e : atMost d.data.toList limP.data.toList with
              | false => rfl
              | true => exact absurd (hat.out.1 e) hle
            have HN : Hid (tokOk t.data.toList = false) := tok_big _ (by rw [HR.out, HL.out]; exact hle)
            clear hat hle hval HR HNG HL
            rcases hsplit with h1 | ⟨h1, h2⟩
            all_goals
              go_wp2_with fail
              refine (atlimP d false _ hdz HAT.out).mono ?_
              rintro e w1 ⟨rfl, hb1⟩
              have HB1 : Hid (Below w.heap.size w w1) := hb1
              clear hb1
              go_wp2
              go_ret2
              exact ⟨ret_no HN.out, HB1.out⟩

set_option maxHeartbeats 2000000 in
theorem tok_plus (t : ByteArray) (w : World) (hp : 0 < t.size) (hs : t.size ≤ 1048600) (hc : t[0].toNat = 43) :
    Calls Tryd.prog 13 #[.string t] w fun e w' => e = TokRet t.data.toList ∧ Below w.heap.size w w' := by
  have HR : Hid (restT t.data.toList = t.data.toList.drop 1) := (rest_plus t hp hc).1
  have HNG : Hid (negT t.data.toList = false) := (rest_plus t hp hc).2
  have HL : Hid (limT t.data.toList = 9223372036854775807) := by show _ = _; unfold limT; rw [HNG.out]; rfl
  have hp1 : (0 : Int) < (t.size : Int) := by omega
  have hc1 : ((t[0].toNat : Int) == 43) = true := by rw [hc]; rfl
  have hc2 : ((t[0].toNat : Int) == 45) = false := by rw [hc]; rfl
  clear hc
  by_cases hone : t.size = 1
  · have HN : Hid (tokOk t.data.toList = false) := tok_empty _ (by rw [HR.out]; exact List.drop_of_length_le (by rw [sz]; omega))
    have hz : ((1 : Int) == (t.size : Int)) = true := by rw [hone]; rfl
    clear hone
    go_enter Tryd.func13, Tryd.ntmps13
    go_wp2
    go_ret2
    exact ⟨ret_no HN.out, Below.refl _ _⟩
  have hz : ((1 : Int) == (t.size : Int)) = false := by rw [beq_eq_false_iff_ne]; omega
  go_enter Tryd.func13, Tryd.ntmps13
  go_wp2
  go_loop [6] (fun j => ∃ k : Nat, 1 ≤ k ∧ k ≤ t.size ∧ j = .int .i64 k ∧ ∀ m (hm : m < t.size), 1 ≤ m → m < k → isD t[m] = true) (fun j => t.size - (intOf j).toNat)
  case atStart => exact ⟨1, Nat.le_refl _, by omega, rfl, fun m hm h1 h2 => by omega⟩
  case round =>
    obtain ⟨k, hk0, hk, rfl, hal⟩ := hrel
    have HA : Hid (∀ m (hm : m < t.size), 1 ≤ m → m < k → isD t[m] = true) := hal
    clear hal
    by_cases hlt : k < t.size
    · have hlti : (k : Int) < (t.size : Int) := by omega
      by_cases hd : isD (t[k]'hlt) = true
      · have hd' := of_decide_eq_true hd
        have HA2 : Hid (∀ m (hm : m < t.size), 1 ≤ m → m < k + 1 → isD t[m] = true) := fun m hm h1 h2 => by
          by_cases e : m = k
          · subst e; exact hd
          · exact HA.out m hm h1 (by omega)
        clear HA hd
        obtain ⟨hd1, hd2⟩ := hd'
        go_wp2
        exact ⟨⟨k + 1, by omega, by omega, by go_num, HA2.out⟩, by simp [intOf]; omega⟩
      · have HN : Hid (tokOk t.data.toList = false) := tok_bad _ (by rw [HR.out]; exact bad_from t 1 k hlt hk0 (by simpa using hd))
        have hd' : (t[k]'hlt).toNat < 48 ∨ (48 ≤ (t[k]'hlt).toNat ∧ 57 < (t[k]'hlt).toNat) := by
          have : ¬ (48 ≤ (t[k]'hlt).toNat ∧ (t[k]'hlt).toNat ≤ 57) := fun e => hd (decide_eq_true e)
          omega
        clear hd HA
        rcases hd' with hd' | ⟨hd1, hd2⟩
        all_goals
          go_wp2
          go_ret2
          exact ⟨ret_no HN.out, Below.refl _ _⟩
    · have HD : Hid ((t.data.toList.drop 1).all isD = true) := all_from t 1 fun m hm h1 => HA.out m hm h1 (by omega)
      have HNE : Hid (t.data.toList.drop 1 ≠ []) := fun e => by
        have := congrArg List.length e
        rw [List.length_drop, sz] at this
        have h0 : ([] : List UInt8).length = 0 := rfl
        omega
      clear HA
      go_wp2
      go_loop [4] (fun i => ∃ q : Nat, 1 ≤ q ∧ q < t.size ∧ i = .int .i64 q ∧ strip (t.data.toList.drop q) = strip (t.data.toList.drop 1)) (fun i => t.size - (intOf i).toNat)
      case atStart => exact ⟨1, Nat.le_refl _, by omega, rfl, rfl⟩
      case round =>
        obtain ⟨q, hq0, hq, rfl, hst⟩ := hrel
        have HS : Hid (strip (t.data.toList.drop q) = strip (t.data.toList.drop 1)) := hst
        have hqi : (q : Int) < (t.size : Int) := by omega
        clear hst
        by_cases hgo : q + 1 < t.size ∧ (t[q]'hq).toNat = 48
        · obtain ⟨hg1, hg2⟩ := hgo
          have HS2 : Hid (strip (t.data.toList.drop (q + 1)) = strip (t.data.toList.drop 1)) := by show _ = _; rw [← strip_zero t q hg1 hg2]; exact HS.out
          have hg2' : (((t[q]'hq).toNat : Int) == 48) = true := by rw [hg2]; rfl
          clear hg2 HS
          go_wp2
          exact ⟨⟨q + 1, by omega, hg1, by go_num, HS2.out⟩, by simp [intOf]; omega⟩
        · have HK : Hid (strip (t.data.toList.drop 1) = t.data.toList.drop q) := by
            show _ = _
            rw [← HS.out]
            by_cases e : q + 1 = t.size
            · exact strip_last t q e
            · exact strip_keep t q hq (fun e2 => hgo ⟨by omega, e2⟩)
          obtain ⟨d, hd⟩ : ∃ d : ByteArray, t.extract q t.size = d := ⟨_, rfl⟩
          have HDD : Hid (d.data.toList = strip (t.data.toList.drop 1)) := by show _ = _; rw [← hd, extract_drop, HK.out]
          have hdz : d.size ≤ 1048600 := by
            rw [← sz, ← hd, extract_drop, List.length_drop, sz]; omega
          have hsplit : (t.size : Int) - 1 ≤ q ∨ ((q : Int) < (t.size : Int) - 1 ∧ (((t[q]'hq).toNat : Int) == 48) = false) := by
            by_cases e : (t.size : Int) - 1 ≤ q
            · exact .inl e
            · refine .inr ⟨by omega, ?_⟩
              rw [beq_eq_false_iff_ne]; intro e2; exact hgo ⟨by omega, by omega⟩
          have hall : Hid (d.data.toList.all isD = true) := by show _ = _; rw [HDD.out]; exact strip_all _ HD.out
          have hval : Hid (val d.data.toList = val (t.data.toList.drop 1)) := by show _ = _; rw [HDD.out, strip_val]
          have hat : Hid (atMost d.data.toList limP.data.toList = true ↔ val (t.data.toList.drop 1) ≤ 9223372036854775807) := by
            show _ ↔ _; rw [HDD.out]; exact limP_is _ HNE.out HD.out
          clear hgo HS HK HDD
          by_cases hle : val (t.data.toList.drop 1) ≤ 9223372036854775807
          · have HAT : Hid (atMost d.data.toList limP.data.toList = true) := hat.out.2 hle
            have HY : Hid (tokOk t.data.toList = true) := tok_yes _ (by rw [HR.out]; exact HNE.out) (by rw [HR.out]; exact HD.out) (by rw [HR.out, HL.out]; exact hle)
            have HV : Hid (val d.data.toList ≤ 9223372036854775807) := by show _ ≤ _; rw [hval.out]; exact hle
            have HT : Hid (tokVal t.data.toList = ((val d.data.toList : Nat) : Int)) := by show _ = _; unfold tokVal; rw [HNG.out, HR.out, hval.out]; rfl
            clear hat hle hval HR HNG HL
            rcases hsplit with h1 | ⟨h1, h2⟩
            all_goals
              go_wp2_with fail
              refine (atlimP d true _ hdz HAT.out).mono ?_
              rintro e w1 ⟨rfl, hb1⟩
              have HB1 : Hid (Below w.heap.size w w1) := hb1
              clear hb1
              go_wp2
              go_loop [9, 10] (fun u j => ∃ m : Nat, m ≤ d.size ∧ j = .int .i64 m ∧ u = .int .u64 ((val (d.data.toList.take m) : Nat) : Int)) (fun _ j => d.size - (intOf j).toNat)
              case atStart => exact ⟨0, Nat.zero_le _, rfl, rfl⟩
              case round =>
                obtain ⟨m, hm, rfl, rfl⟩ := hrel
                by_cases hlt2 : m < d.size
                · have hm2 : (m : Int) < (d.size : Int) := by omega
                  have hdm := digit_at d m hlt2 hall.out
                  have hvt := val_take d m hlt2
                  have hvl := val_take_le d.data.toList (m + 1)
                  have hb9 : val (d.data.toList.take m) * 10 + ((d[m]'hlt2).toNat - 48) ≤ 9223372036854775808 := by have := HV.out; omega
                  have HVT : Hid (val (d.data.toList.take (m + 1)) = val (d.data.toList.take m) * 10 + ((d[m]'hlt2).toNat - 48)) := hvt
                  clear hvt hvl
                  obtain ⟨hdm1, hdm2⟩ := hdm
                  generalize val (d.data.toList.take m) = x at *
                  go_wp2
                  exact ⟨⟨m + 1, by omega, by go_num, congrArg (Value.int .u64) (by rw [HVT.out]; omega)⟩, by simp [intOf]; omega⟩
                · have hve : d.data.toList.take m = d.data.toList := List.take_of_length_le (by rw [sz]; omega)
                  rw [hve]
                  clear hve
                  have hb9 := HV.out
                  clear HV
                  generalize val d.data.toList = x at *
                  go_wp2
                  go_ret2
                  exact ⟨ret_yes HY.out (by rw [HT.out]), HB1.out⟩
          · have HAT : Hid (atMost d.data.toList limP.data.toList = false) := by
              show _ = _
              cases e : atMost d.data.toList limP.data.toList with
              | false => rfl
              | true => exact absurd (hat.out.1 e) hle
            have HN : Hid (tokOk t.data.toList = false) := tok_big _ (by rw [HR.out, HL.out]; exact hle)
            clear hat hle hval HR HNG HL
            rcases hsplit with h1 | ⟨h1, h2⟩
            all_goals
              go_wp2_with fail
              refine (atlimP d false _ hdz HAT.out).mono ?_
              rintro e w1 ⟨rfl, hb1⟩
              have HB1 : Hid (Below w.heap.size w w1) := hb1
              clear hb1
              go_wp2
              go_ret2
              exact ⟨ret_no HN.out, HB1.out⟩

set_option maxHeartbeats 2000000 in
theorem tok_minus (t : ByteArray) (w : World) (hp : 0 < t.size) (hs : t.size ≤ 1048600) (hc : t[0].toNat = 45) :
    Calls Tryd.prog 13 #[.string t] w fun e w' => e = TokRet t.data.toList ∧ Below w.heap.size w w' := by
  have HR : Hid (restT t.data.toList = t.data.toList.drop 1) := (rest_minus t hp hc).1
  have HNG : Hid (negT t.data.toList = true) := (rest_minus t hp hc).2
  have HL : Hid (limT t.data.toList = 9223372036854775808) := by show _ = _; unfold limT; rw [HNG.out]; rfl
  have hp1 : (0 : Int) < (t.size : Int) := by omega
  have hc1 : ((t[0].toNat : Int) == 43) = false := by rw [hc]; rfl
  have hc2 : ((t[0].toNat : Int) == 45) = true := by rw [hc]; rfl
  clear hc
  by_cases hone : t.size = 1
  · have HN : Hid (tokOk t.data.toList = false) := tok_empty _ (by rw [HR.out]; exact List.drop_of_length_le (by rw [sz]; omega))
    have hz : ((1 : Int) == (t.size : Int)) = true := by rw [hone]; rfl
    clear hone
    go_enter Tryd.func13, Tryd.ntmps13
    go_wp2
    go_ret2
    exact ⟨ret_no HN.out, Below.refl _ _⟩
  have hz : ((1 : Int) == (t.size : Int)) = false := by rw [beq_eq_false_iff_ne]; omega
  go_enter Tryd.func13, Tryd.ntmps13
  go_wp2
  go_loop [6] (fun j => ∃ k : Nat, 1 ≤ k ∧ k ≤ t.size ∧ j = .int .i64 k ∧ ∀ m (hm : m < t.size), 1 ≤ m → m < k → isD t[m] = true) (fun j => t.size - (intOf j).toNat)
  case atStart => exact ⟨1, Nat.le_refl _, by omega, rfl, fun m hm h1 h2 => by omega⟩
  case round =>
    obtain ⟨k, hk0, hk, rfl, hal⟩ := hrel
    have HA : Hid (∀ m (hm : m < t.size), 1 ≤ m → m < k → isD t[m] = true) := hal
    clear hal
    by_cases hlt : k < t.size
    · have hlti : (k : Int) < (t.size : Int) := by omega
      by_cases hd : isD (t[k]'hlt) = true
      · have hd' := of_decide_eq_true hd
        have HA2 : Hid (∀ m (hm : m < t.size), 1 ≤ m → m < k + 1 → isD t[m] = true) := fun m hm h1 h2 => by
          by_cases e : m = k
          · subst e; exact hd
          · exact HA.out m hm h1 (by omega)
        clear HA hd
        obtain ⟨hd1, hd2⟩ := hd'
        go_wp2
        exact ⟨⟨k + 1, by omega, by omega, by go_num, HA2.out⟩, by simp [intOf]; omega⟩
      · have HN : Hid (tokOk t.data.toList = false) := tok_bad _ (by rw [HR.out]; exact bad_from t 1 k hlt hk0 (by simpa using hd))
        have hd' : (t[k]'hlt).toNat < 48 ∨ (48 ≤ (t[k]'hlt).toNat ∧ 57 < (t[k]'hlt).toNat) := by
          have : ¬ (48 ≤ (t[k]'hlt).toNat ∧ (t[k]'hlt).toNat ≤ 57) := fun e => hd (decide_eq_true e)
          omega
        clear hd HA
        rcases hd' with hd' | ⟨hd1, hd2⟩
        all_goals
          go_wp2
          go_ret2
          exact ⟨ret_no HN.out, Below.refl _ _⟩
    · have HD : Hid ((t.data.toList.drop 1).all isD = true) := all_from t 1 fun m hm h1 => HA.out m hm h1 (by omega)
      have HNE : Hid (t.data.toList.drop 1 ≠ []) := fun e => by
        have := congrArg List.length e
        rw [List.length_drop, sz] at this
        have h0 : ([] : List UInt8).length = 0 := rfl
        omega
      clear HA
      go_wp2
      go_loop [4] (fun i => ∃ q : Nat, 1 ≤ q ∧ q < t.size ∧ i = .int .i64 q ∧ strip (t.data.toList.drop q) = strip (t.data.toList.drop 1)) (fun i => t.size - (intOf i).toNat)
      case atStart => exact ⟨1, Nat.le_refl _, by omega, rfl, rfl⟩
      case round =>
        obtain ⟨q, hq0, hq, rfl, hst⟩ := hrel
        have HS : Hid (strip (t.data.toList.drop q) = strip (t.data.toList.drop 1)) := hst
        have hqi : (q : Int) < (t.size : Int) := by omega
        clear hst
        by_cases hgo : q + 1 < t.size ∧ (t[q]'hq).toNat = 48
        · obtain ⟨hg1, hg2⟩ := hgo
          have HS2 : Hid (strip (t.data.toList.drop (q + 1)) = strip (t.data.toList.drop 1)) := by show _ = _; rw [← strip_zero t q hg1 hg2]; exact HS.out
          have hg2' : (((t[q]'hq).toNat : Int) == 48) = true := by rw [hg2]; rfl
          clear hg2 HS
          go_wp2
          exact ⟨⟨q + 1, by omega, hg1, by go_num, HS2.out⟩, by simp [intOf]; omega⟩
        · have HK : Hid (strip (t.data.toList.drop 1) = t.data.toList.drop q) := by
            show _ = _
            rw [← HS.out]
            by_cases e : q + 1 = t.size
            · exact strip_last t q e
            · exact strip_keep t q hq (fun e2 => hgo ⟨by omega, e2⟩)
          obtain ⟨d, hd⟩ : ∃ d : ByteArray, t.extract q t.size = d := ⟨_, rfl⟩
          have HDD : Hid (d.data.toList = strip (t.data.toList.drop 1)) := by show _ = _; rw [← hd, extract_drop, HK.out]
          have hdz : d.size ≤ 1048600 := by
            rw [← sz, ← hd, extract_drop, List.length_drop, sz]; omega
          have hsplit : (t.size : Int) - 1 ≤ q ∨ ((q : Int) < (t.size : Int) - 1 ∧ (((t[q]'hq).toNat : Int) == 48) = false) := by
            by_cases e : (t.size : Int) - 1 ≤ q
            · exact .inl e
            · refine .inr ⟨by omega, ?_⟩
              rw [beq_eq_false_iff_ne]; intro e2; exact hgo ⟨by omega, by omega⟩
          have hall : Hid (d.data.toList.all isD = true) := by show _ = _; rw [HDD.out]; exact strip_all _ HD.out
          have hval : Hid (val d.data.toList = val (t.data.toList.drop 1)) := by show _ = _; rw [HDD.out, strip_val]
          have hat : Hid (atMost d.data.toList limN.data.toList = true ↔ val (t.data.toList.drop 1) ≤ 9223372036854775808) := by
            show _ ↔ _; rw [HDD.out]; exact limN_is _ HNE.out HD.out
          clear hgo HS HK HDD
          by_cases hle : val (t.data.toList.drop 1) ≤ 9223372036854775808
          · have HAT : Hid (atMost d.data.toList limN.data.toList = true) := hat.out.2 hle
            have HY : Hid (tokOk t.data.toList = true) := tok_yes _ (by rw [HR.out]; exact HNE.out) (by rw [HR.out]; exact HD.out) (by rw [HR.out, HL.out]; exact hle)
            have HV : Hid (val d.data.toList ≤ 9223372036854775808) := by show _ ≤ _; rw [hval.out]; exact hle
            have HT : Hid (tokVal t.data.toList = -(val d.data.toList : Int)) := by show _ = _; unfold tokVal; rw [HNG.out, HR.out, hval.out]; rfl
            clear hat hle hval HR HNG HL
            rcases hsplit with h1 | ⟨h1, h2⟩
            all_goals
              go_wp2_with fail
              refine (atlimN d true _ hdz HAT.out).mono ?_
              rintro e w1 ⟨rfl, hb1⟩
              have HB1 : Hid (Below w.heap.size w w1) := hb1
              clear hb1
              go_wp2
              go_loop [9, 10] (fun u j => ∃ m : Nat, m ≤ d.size ∧ j = .int .i64 m ∧ u = .int .u64 ((val (d.data.toList.take m) : Nat) : Int)) (fun _ j => d.size - (intOf j).toNat)
              case atStart => exact ⟨0, Nat.zero_le _, rfl, rfl⟩
              case round =>
                obtain ⟨m, hm, rfl, rfl⟩ := hrel
                by_cases hlt2 : m < d.size
                · have hm2 : (m : Int) < (d.size : Int) := by omega
                  have hdm := digit_at d m hlt2 hall.out
                  have hvt := val_take d m hlt2
                  have hvl := val_take_le d.data.toList (m + 1)
                  have hb9 : val (d.data.toList.take m) * 10 + ((d[m]'hlt2).toNat - 48) ≤ 9223372036854775808 := by have := HV.out; omega
                  have HVT : Hid (val (d.data.toList.take (m + 1)) = val (d.data.toList.take m) * 10 + ((d[m]'hlt2).toNat - 48)) := hvt
                  clear hvt hvl
                  obtain ⟨hdm1, hdm2⟩ := hdm
                  generalize val (d.data.toList.take m) = x at *
                  go_wp2
                  exact ⟨⟨m + 1, by omega, by go_num, congrArg (Value.int .u64) (by rw [HVT.out]; omega)⟩, by simp [intOf]; omega⟩
                · have hve : d.data.toList.take m = d.data.toList := List.take_of_length_le (by rw [sz]; omega)
                  rw [hve]
                  clear hve
                  have hb9 := HV.out
                  clear HV
                  generalize val d.data.toList = x at *
                  go_wp2
                  go_ret2
                  exact ⟨ret_yes HY.out (by rw [HT.out]; exact (IntWalk.i64_left _).symm.trans (neg_i64 (x : Int) (by omega) (by omega))), HB1.out⟩
          · have HAT : Hid (atMost d.data.toList limN.data.toList = false) := by
              show _ = _
              cases e : atMost d.data.toList limN.data.toList with
              | false => rfl
              | true => exact absurd (hat.out.1 e) hle
            have HN : Hid (tokOk t.data.toList = false) := tok_big _ (by rw [HR.out, HL.out]; exact hle)
            clear hat hle hval HR HNG HL
            rcases hsplit with h1 | ⟨h1, h2⟩
            all_goals
              go_wp2_with fail
              refine (atlimN d false _ hdz HAT.out).mono ?_
              rintro e w1 ⟨rfl, hb1⟩
              have HB1 : Hid (Below w.heap.size w w1) := hb1
              clear hb1
              go_wp2
              go_ret2
              exact ⟨ret_no HN.out, HB1.out⟩

theorem tok_any (t : ByteArray) (w : World) (hs : t.size ≤ 1048600) :
    Calls Tryd.prog 13 #[.string t] w fun e w' => e = TokRet t.data.toList ∧ Below w.heap.size w w' := by
  by_cases h0 : t.size = 0
  · exact tok_nil t w h0
  · have hp : 0 < t.size := by omega
    by_cases h1 : t[0].toNat = 43
    · exact tok_plus t w hp hs h1
    · by_cases h2 : t[0].toNat = 45
      · exact tok_minus t w hp hs h2
      · exact tok_plain t w hp hs (by omega)
end Go.Proofs.Qxb6603014aDoor
