/- peek and its model, walked. -/
import Derived.Test.Qxb6604191aRows
import Derived.WalkKit
import Derived.WalkSpells
import Derived.Below
import Derived.WalkSmall
import Derived.Deep.OwnRows
import Derived.Deep.QuietTactic
import Derived.BigQuiet
import Derived.Deep.Light
namespace Go.Proofs.Qxb6604191a
open Go.RowKit
set_option linter.unusedVariables false

theorem Try.info5 : (Try.prog.info? 5).map (fun i => (i.zero, i.size, i.bytes)) = some (some (.int .u8 0), 1, 1) := by kernel_rfl

set_option maxHeartbeats 1000000 in
theorem copy_row (x : Addr) (n cap : Nat) (f : Nat → Int) (w : World) (hn : n ≤ 1048576) (hcell : ∀ j, j < n → w.cell? (x.add j) = some (.int .u8 (f j))) :
    Calls Try.prog 5 #[.slice (some x) n cap] w fun e w' => e = .returned (.slice (some ⟨w.heap.size, 0, none⟩) n n) ∧ Below w.heap.size w w' ∧ w'.rowIs w.heap.size 5 n (fun j => .int .u8 (f j)) := by
  have hmk := run_make_row' (P := Try.prog) 22 5 (.int .u8 0) 1 Try.underlying22 Try.info5 rfl .i64 .i64 n (by omega) (by omega)
  have heq := fun w => Lib.run_eql_slice_nil (P := Try.prog) w 22
  go_enter Try.func5, Try.ntmps5
  go_wp2
  go_loopw [4] (fun i wr => ∃ k : Nat, k ≤ n ∧ i = .int .i64 k ∧ Below w.heap.size w wr ∧ wr.rowIs w.heap.size 5 n (fun j => .int .u8 (if j < k then f j else 0))) (fun i _ => n - (intOf i).toNat)
  case atStart => exact ⟨0, Nat.zero_le _, rfl, (Below.refl _ _).alloc (Nat.le_refl _) _, (World.rowIs_made w (.int .u8 0) n 5).congr fun j hj => by rw [if_neg (by omega)]⟩
  case round =>
    obtain ⟨k, hk, rfl, hb, hr⟩ := hrel
    by_cases hlt : k < n
    · have hlti : (k : Int) < (n : Int) := by omega
      have hold := World.block_lt_of_cell? _ _ (hcell k hlt)
      have hold2 : (x.add k).block = x.block := by unfold Addr.add; split <;> rfl
      have hc1 : wr.cell? (x.add k) = some (.int .u8 (f k)) := by rw [hb.cell hold]; exact hcell k hlt
      have hc2 := hr.cell hlt
      have hf2 := hr.frozen k
      rw [if_neg (by omega)] at hc2
      have HB : Hid (∀ v, Below w.heap.size w (wr.setCell ⟨w.heap.size, k, none⟩ v)) := fun v => hb.setCell (Nat.le_refl _) v
      have HR : Hid ((wr.setCell ⟨w.heap.size, k, none⟩ (.int .u8 (f k))).rowIs w.heap.size 5 n (fun j => .int .u8 (if j < k + 1 then f j else 0))) :=
        (hr.set k (.int .u8 (f k))).congr fun j hj => by
          by_cases e : j = k
          · subst e; rw [if_pos rfl, if_pos (by omega)]
          · rw [if_neg e]
            by_cases e2 : j < k
            · rw [if_pos e2, if_pos (by omega)]
            · rw [if_neg e2, if_neg (by omega)]
      clear hb hr hold hold2 hcell
      go_wp2
      exact ⟨⟨k + 1, by omega, by go_num, HB.out _, HR.out⟩, by simp [intOf]; omega⟩
    · have HB : Hid (Below w.heap.size w wr) := hb
      have HR : Hid (wr.rowIs w.heap.size 5 n (fun j => .int .u8 (f j))) := hr.congr fun j hj => by rw [if_pos (by omega)]
      clear hb hr hcell
      go_wp2
      go_ret
      exact ⟨rfl, HB.out, HR.out⟩

/-- JSON's four white-space bytes. -/
def isJ (x : Int) : Bool := decide (x = 32 ∨ x = 9 ∨ x = 10 ∨ x = 13)
theorem isJ_yes {x : Int} (h : isJ x = true) : x = 32 ∨ x = 9 ∨ x = 10 ∨ x = 13 := of_decide_eq_true h
theorem isJ_no {x : Int} (h : isJ x = false) : (x == 32) = false ∧ (x == 9) = false ∧ (x == 10) = false ∧ (x == 13) = false := by
  have := of_decide_eq_false h
  refine ⟨?_, ?_, ?_, ?_⟩ <;> (rw [beq_eq_false_iff_ne]; omega)
theorem space_any (x : Int) (w : World) :
    Calls Try.prog 9 #[.int .u8 x] w fun e w' => e = .returned (.bool (isJ x)) ∧ w = w' := by
  cases h : isJ x
  · obtain ⟨h1, h2, h3, h4⟩ := isJ_no h
    clear h
    go_enter Try.func9, Try.ntmps9
    go_wp2
    go_ret
    exact ⟨rfl, rfl⟩
  · have := isJ_yes h
    clear h
    rcases this with rfl | rfl | rfl | rfl
    all_goals
      go_enter Try.func9, Try.ntmps9
      go_wp2
      go_ret
      exact ⟨rfl, rfl⟩

/-- The first byte at or behind i that is no space, or n. -/
def FirstJ (f : Nat → Int) (n i p : Nat) : Prop := i ≤ p ∧ p ≤ n ∧ (∀ j, i ≤ j → j < p → isJ (f j) = true) ∧ (p < n → isJ (f p) = false)
theorem first_ex (f : Nat → Int) (n : Nat) : ∀ (d i : Nat), i + d = n → ∃ p, FirstJ f n i p
  | 0, i, h => ⟨i, Nat.le_refl _, by omega, fun j h1 h2 => by omega, fun h1 => by omega⟩
  | d + 1, i, h => by
    cases e : isJ (f i)
    · exact ⟨i, Nat.le_refl _, by omega, fun j h1 h2 => by omega, fun _ => e⟩
    · obtain ⟨p, h1, h2, h3, h4⟩ := first_ex f n d (i + 1) (by omega)
      refine ⟨p, by omega, h2, fun j h5 h6 => ?_, h4⟩
      by_cases e2 : j = i
      · subst e2; exact e
      · exact h3 j (by omega) h6

/-- What peek and the model hand back. -/
def ansC (f : Nat → Int) (n p : Nat) : Int := if p < n then f p else -1

set_option maxHeartbeats 1000000 in
theorem peek_row (B g n cap i p : Nat) (f : Nat → Int) (w : World) (hn : n ≤ 1048576) (hF : FirstJ f n i p) (hB : w.rowIs B 29 2 (fun j => if j = 0 then .slice (some ⟨g, 0, none⟩) n cap else .int .i64 i)) (hg : g < B) (hrow : ∀ j, j < n → w.cell? ⟨g, j, none⟩ = some (.int .u8 (f j))) (hr : ∀ j, 0 ≤ f j ∧ f j ≤ 255) :
    Calls Try.prog 8 #[.pointer (some ⟨B, 0, none⟩)] w fun e w' => e = .returned (.int .i64 (ansC f n p)) ∧ Below B w w' ∧ w'.rowIs B 29 2 (fun j => if j = 0 then .slice (some ⟨g, 0, none⟩) n cap else .int .i64 p) := by
  go_enter Try.func8, Try.ntmps8
  go_wp2
  go_loopw [] (fun wr => ∃ q : Nat, i ≤ q ∧ q ≤ p ∧ Below B w wr ∧ wr.rowIs B 29 2 (fun j => if j = 0 then .slice (some ⟨g, 0, none⟩) n cap else .int .i64 q)) (fun wr => n - (intOf ((wr.cell? ⟨B, 1, none⟩).getD undef)).toNat)
  case atStart => exact ⟨i, Nat.le_refl _, hF.1, Below.refl _ _, hB⟩
  case round =>
    obtain ⟨q, hq1, hq2, hb, hr2⟩ := hrel
    have hpn := hF.2.1
    have c0 : wr.cell? ⟨B, 0, none⟩ = some (.slice (some ⟨g, 0, none⟩) n cap) := hr2.cell (by omega)
    have c1 : wr.cell? ⟨B, 1, none⟩ = some (.int .i64 q) := hr2.cell (by omega)
    have f1 := hr2.frozen 1
    have hfq := hr q
    by_cases hlt : q < n
    · have hqi : (q : Int) < (n : Int) := by omega
      have cg : wr.cell? ⟨g, q, none⟩ = some (.int .u8 (f q)) := by rw [hb.cell hg]; exact hrow q hlt
      by_cases hqp : q < p
      · have hsp := isJ_yes (hF.2.2.1 q hq1 hqp)
        have HB : Hid (∀ k v, Below B w ((wr.drewN k).setCell ⟨B, 1, none⟩ v)) := fun k v => (below_drewN hb k).setCell (Nat.le_refl _) v
        have HR : Hid (∀ k, ((wr.drewN k).setCell ⟨B, 1, none⟩ (.int .i64 ((q : Int) + 1))).rowIs B 29 2 (fun j => if j = 0 then .slice (some ⟨g, 0, none⟩) n cap else .int .i64 ((q + 1 : Nat) : Int))) := fun k =>
          ((show (wr.drewN k).rowIs B 29 2 _ from hr2).set 1 _).congr fun j hj => by
            have : j = 0 ∨ j = 1 := by omega
            rcases this with rfl | rfl <;> rfl
        generalize f q = x at *
        clear hb hr2 hF hB hrow hr
        have HM : Hid (∀ k, n - (intOf ((((wr.drewN k).setCell ⟨B, 1, none⟩ (.int .i64 ((q : Int) + 1))).cell? ⟨B, 1, none⟩).getD undef)).toNat < n - (intOf ((wr.cell? ⟨B, 1, none⟩).getD undef)).toNat) := fun k => by
          have e := (HR.out k).cell (i := 1) (by omega)
          rw [e, c1]
          simp [intOf]
          omega
        rcases hsp with rfl | rfl | rfl | rfl
        all_goals
          go_wp2
          go_quiet (fail)
          go_wp2
          go_quiet (fail)
          go_wp2
          exact ⟨⟨q + 1, by omega, by omega, HB.out _ _, HR.out _⟩, HM.out _⟩
      · have hqe : q = p := by omega
        subst hqe
        obtain ⟨h1, h2, h3, h4⟩ := isJ_no (hF.2.2.2 hlt)
        have HA : Hid (f q = ansC f n q) := by show _ = _; unfold ansC; rw [if_pos hlt]
        have HB : Hid (∀ k, Below B w (wr.drewN k)) := fun k => below_drewN hb k
        have HR : Hid (∀ k, (wr.drewN k).rowIs B 29 2 (fun j => if j = 0 then .slice (some ⟨g, 0, none⟩) n cap else .int .i64 q)) := fun k => hr2
        clear hb hr2 hF hB hrow hr
        generalize f q = x at *
        go_wp2
        go_quiet (fail)
        go_wp2
        go_quiet (fail)
        go_wp2
        go_ret
        exact ⟨congrArg (fun v => Ending.returned (Value.int .i64 v)) HA.out, HB.out _, HR.out _⟩
    · have hqe : q = p := by omega
      subst hqe
      have HA : Hid ((-1 : Int) = ansC f n q) := by show _ = _; unfold ansC; rw [if_neg hlt]
      have HB : Hid (∀ k, Below B w (wr.drewN k)) := fun k => below_drewN hb k
      have HR : Hid (∀ k, (wr.drewN k).rowIs B 29 2 (fun j => if j = 0 then .slice (some ⟨g, 0, none⟩) n cap else .int .i64 q)) := fun k => hr2
      clear hb hr2 hF hB hrow hr hfq
      go_wp2
      go_quiet (fail)
      go_wp2
      go_ret
      exact ⟨congrArg (fun v => Ending.returned (Value.int .i64 v)) HA.out, HB.out _, HR.out _⟩

set_option maxHeartbeats 1000000 in
theorem peekAt_row (g n cap i p : Nat) (f : Nat → Int) (w : World) (hn : n ≤ 1048576) (hF : FirstJ f n i p) (hrow : ∀ j, j < n → w.cell? ⟨g, j, none⟩ = some (.int .u8 (f j))) (hg : g < w.heap.size) (hr : ∀ j, 0 ≤ f j ∧ f j ≤ 255) :
    Calls Try.prog 6 #[.slice (some ⟨g, 0, none⟩) n cap, .int .i64 i] w fun e w' => e = .returned (.tuple #[.int .i64 (ansC f n p), .int .i64 p]) ∧ Below w.heap.size w w' := by
  have H : Hid (∀ o, (w.alloc o).rowIs w.heap.size 29 2 (fun j => if j = 0 then .slice (some ⟨g, 0, none⟩) n cap else .int .i64 i) → Calls Try.prog 8 #[.pointer (some ⟨w.heap.size, 0, none⟩)] (w.alloc o) fun e w' => e = .returned (.int .i64 (ansC f n p)) ∧ Below w.heap.size (w.alloc o) w' ∧ w'.rowIs w.heap.size 29 2 (fun j => if j = 0 then .slice (some ⟨g, 0, none⟩) n cap else .int .i64 p)) := fun o ho =>
    peek_row w.heap.size g n cap i p f (w.alloc o) hn hF ho hg (fun j hj => by rw [World.cell?_alloc_old _ _ _ (Nat.ne_of_lt hg)]; exact hrow j hj) hr
  clear hF hrow hr
  generalize ansC f n p = c at *
  go_enter Try.func6, Try.ntmps6
  go_wp2_with fail
  refine (H.out _ ?_).mono ?_
  · exact World.rowIs_alloc w #[.slice (some ⟨g, 0, none⟩) n cap, .int .i64 i] 29 _ (fun j hj => by
      have : j = 0 ∨ j = 1 := by simp at hj; omega
      rcases this with rfl | rfl <;> rfl)
  rintro e w1 ⟨rfl, hb, hr⟩
  have c1 : w1.cell? ⟨w.heap.size, 1, none⟩ = some (.int .i64 p) := hr.cell (by omega)
  have HB : Hid (∀ k, Below w.heap.size w (w1.drewN k)) := fun k => below_drewN (((Below.refl _ _).alloc (Nat.le_refl _) _).trans hb) k
  clear hb hr
  go_wp2
  go_quiet (fail)
  go_wp2
  go_ret2
  exact ⟨rfl, HB.out _⟩

theorem first_uniq {f : Nat → Int} {n i p r : Nat} (h : FirstJ f n i p) (k : FirstJ f n i r) : r = p := by
  obtain ⟨h1, h2, h3, h4⟩ := h
  obtain ⟨k1, k2, k3, k4⟩ := k
  rcases Nat.lt_trichotomy r p with e | e | e
  · have a := h3 r k1 e
    have b := k4 (by omega)
    rw [a] at b; cases b
  · exact e
  · have a := k3 p h1 e
    have b := h4 (by omega)
    rw [a] at b; cases b
theorem first_hit {f : Nat → Int} {n k : Nat} (hk : k < n) (h : isJ (f k) = false) : FirstJ f n k k := ⟨Nat.le_refl _, by omega, fun j a b => by omega, fun _ => h⟩
theorem first_miss {f : Nat → Int} {n k r : Nat} (h : isJ (f k) = true) (hr : FirstJ f n (k + 1) r) : FirstJ f n k r := by
  obtain ⟨h1, h2, h3, h4⟩ := hr
  refine ⟨by omega, h2, fun j a b => ?_, h4⟩
  by_cases e : j = k
  · subst e; exact h
  · exact h3 j (by omega) b
def fnd (n r : Nat) : Int := if r < n then (r : Int) else -1

set_option maxHeartbeats 1000000 in
theorem model_row (g n cap i p : Nat) (f : Nat → Int) (w : World) (hn : n ≤ 1048576) (hi : i < n) (hF : FirstJ f n i p) (hrow : ∀ j, j < n → w.cell? ⟨g, j, none⟩ = some (.int .u8 (f j))) (hr : ∀ j, 0 ≤ f j ∧ f j ≤ 255) :
    Calls Try.prog 7 #[.slice (some ⟨g, 0, none⟩) n cap, .int .i64 i] w fun e w' => e = .returned (.tuple #[.int .i64 (ansC f n p), .int .i64 p]) ∧ w = w' := by
  have hii : ¬ (n : Int) ≤ (i : Int) := by omega
  go_enter Try.func7, Try.ntmps7
  go_wp2
  go_loop [6, 7] (fun fo j => ∃ k r : Nat, i ≤ k ∧ k ≤ n ∧ j = .int .i64 ((k : Int) - 1) ∧ FirstJ f n k r ∧ fo = .int .i64 (fnd n r)) (fun _ j => (intOf j + 1).toNat)
  case atStart => exact ⟨n, n, by omega, Nat.le_refl _, rfl, ⟨Nat.le_refl _, Nat.le_refl _, fun j a b => by omega, fun a => by omega⟩, by unfold fnd; rw [if_neg (by omega)]⟩
  case round =>
    obtain ⟨k, r, hk1, hk2, rfl, hfr, rfl⟩ := hrel
    have HFR : Hid (FirstJ f n k r) := hfr
    clear hfr
    by_cases hgo : i < k
    · obtain ⟨m, rfl⟩ : ∃ m, k = m + 1 := ⟨k - 1, by omega⟩
      rw [show (((m + 1 : Nat) : Int) - 1) = (m : Int) from by omega]
      have hmi : (m : Int) < (n : Int) := by omega
      have him : (i : Int) ≤ (m : Int) := by omega
      have cm := hrow m (by omega)
      have hfm := hr m
      cases hsp : isJ (f m)
      · have HF2 : Hid (FirstJ f n m m) := first_hit (by omega) hsp
        have HV : Hid (fnd n m = (m : Int)) := by show _ = _; unfold fnd; rw [if_pos (by omega)]
        clear HFR hrow hr
        generalize f m = x at cm hfm hsp
        go_wp2_with (go_at_call 9; refine (space_any _ _).mono ?_; rintro e w' ⟨rfl, rfl⟩)
        exact ⟨⟨m, m, by omega, by omega, by go_num, HF2.out, by rw [HV.out]⟩, by simp [intOf]⟩
      · have HF2 : Hid (FirstJ f n m r) := first_miss hsp HFR.out
        clear HFR hrow hr
        generalize f m = x at cm hfm hsp
        go_wp2_with (go_at_call 9; refine (space_any _ _).mono ?_; rintro e w' ⟨rfl, rfl⟩)
        exact ⟨⟨m, r, by omega, by omega, by go_num, HF2.out, rfl⟩, by simp [intOf]⟩
    · have e : k = i := by omega
      subst e
      have e2 : r = p := first_uniq hF HFR.out
      subst e2
      have hnot : ¬ (k : Int) ≤ (k : Int) - 1 := by omega
      by_cases hpn : r < n
      · have HV : Hid (fnd n r = (r : Int)) := by show _ = _; unfold fnd; rw [if_pos hpn]
        have HA : Hid (f r = ansC f n r) := by show _ = _; unfold ansC; rw [if_pos hpn]
        have hri : (r : Int) < (n : Int) := by omega
        have cr := hrow r hpn
        have hfr := hr r
        rw [HV.out]
        clear HFR hrow hr HV hF
        generalize f r = x at *
        go_wp2
        go_ret2
        exact ⟨congrArg (fun v => Ending.returned (Value.tuple #[.int .i64 v, .int .i64 r])) HA.out, rfl⟩
      · have HV : Hid (fnd n r = -1) := by show _ = _; unfold fnd; rw [if_neg hpn]
        have HA : Hid ((-1 : Int) = ansC f n r) := by show _ = _; unfold ansC; rw [if_neg hpn]
        have hrn : Hid ((n : Int) = (r : Int)) := by have := hF.2.1; show _ = _; omega
        rw [HV.out]
        clear HFR hrow hr HV hF
        go_wp2
        go_ret2
        exact ⟨(congrArg (fun v => Ending.returned (Value.tuple #[.int .i64 v, .int .i64 n])) HA.out).trans (congrArg (fun v => Ending.returned (Value.tuple #[.int .i64 (ansC f n r), .int .i64 v])) hrn.out), rfl⟩

theorem bytes4 (a : Option Addr) (n cap : Nat) (i : Int) (w : World) (hn : (n : Int) ≤ 1048576) :
    Calls Try.prog 4 #[.slice a n cap, .int .i64 i] w fun e w' => e = .returned (.bool true) ∧ w = w' := by
  go_enter Try.func4, Try.ntmps4
  go_wp2
  go_ret
  exact ⟨rfl, rfl⟩
theorem law_out (a : Option Addr) (n cap : Nat) (i : Int) (w : World) (h0 : n ≤ maxLen) (h : 1048576 < (n : Int) ∨ ((n : Int) ≤ 1048576 ∧ i < 0)) :
    Calls Try.prog 3 #[.slice a n cap, .int .i64 i] w fun e w' => e = .returned (.bool true) ∧ Below w.heap.size w w' := by
  unfold maxLen at h0
  rcases h with h | ⟨h, h'⟩
  all_goals
    go_enter Try.func3, Try.ntmps3
    go_wp2
    go_ret
    exact ⟨rfl, Below.refl _ _⟩
theorem copy_nil (w : World) : Calls Try.prog 5 #[.slice none 0 0] w fun e w' => e = .returned (.slice none 0 0) ∧ w = w' := by
  have heq := fun w => Lib.run_eql_slice_nil (P := Try.prog) w 22 5 none 0 0 0 0 Try.underlying22
  go_enter Try.func5, Try.ntmps5
  go_wp2
  go_ret
  exact ⟨rfl, rfl⟩

/-- At an offset at or past the end both answer (-1, i). -/
theorem peekEnd (v : Option Addr) (n cap i : Nat) (w : World) (hn : n ≤ 1048576) (hi : n ≤ i) (hi2 : (i : Int) ≤ 9223372036854775807) :
    Calls Try.prog 6 #[.slice v n cap, .int .i64 i] w fun e w' => e = .returned (.tuple #[.int .i64 (-1), .int .i64 i]) ∧ Below w.heap.size w w' := by
  have hii : ¬ (i : Int) < (n : Int) := by omega
  have HB : Hid (∀ o k, Below w.heap.size w ((w.alloc o).drewN k)) := fun o k => below_drewN ((Below.refl _ _).alloc (Nat.le_refl _) _) k
  have H8 : Hid (Calls Try.prog 8 #[.pointer (some ⟨w.heap.size, 0, none⟩)] (w.alloc (.cells #[.slice v n cap, .int .i64 i] 29)) fun e w' => e = .returned (.int .i64 (-1)) ∧ ∃ k, w' = (w.alloc (.cells #[.slice v n cap, .int .i64 i] 29)).drewN k) := by
    show Calls _ _ _ _ _
    go_enter Try.func8, Try.ntmps8
    go_wp2
    refine wp_loop_rounds 1 ?_
    rw [rounds_succ]
    go_wp2
    go_quiet (fail)
    go_wp2
    go_ret
    exact ⟨rfl, _, rfl⟩
  go_enter Try.func6, Try.ntmps6
  go_wp2_with fail
  refine H8.out.mono ?_
  rintro e w1 ⟨rfl, k, rfl⟩
  go_wp2
  go_quiet (fail)
  go_wp2
  go_ret2
  exact ⟨rfl, below_drewN (HB.out _ _) _⟩
theorem modelEnd (v : Option Addr) (n cap i : Nat) (w : World) (hi : n ≤ i) :
    Calls Try.prog 7 #[.slice v n cap, .int .i64 i] w fun e w' => e = .returned (.tuple #[.int .i64 (-1), .int .i64 i]) ∧ w = w' := by
  have hii : (n : Int) ≤ (i : Int) := by omega
  go_enter Try.func7, Try.ntmps7
  go_wp2
  go_ret2
  exact ⟨rfl, rfl⟩

set_option maxHeartbeats 1000000 in
theorem law_nil (i : Nat) (w : World) (hi2 : (i : Int) ≤ 9223372036854775807) :
    Calls Try.prog 3 #[.slice none 0 0, .int .i64 i] w fun e w' => e = .returned (.bool true) ∧ Below w.heap.size w w' := by
  have hi0 : ¬ (i : Int) < 0 := by omega
  go_enter Try.func3, Try.ntmps3
  go_wp2_with (go_at_call 4; refine (bytes4 _ _ _ _ _ (by omega)).mono ?_; rintro e w' ⟨rfl, rfl⟩)
  refine (copy_nil _).mono ?_
  rintro e w' ⟨rfl, rfl⟩
  go_wp2_with fail
  refine (peekEnd none 0 0 i _ (by omega) (by omega) hi2).mono ?_
  rintro e w1 ⟨rfl, hb1⟩
  have HB1 : Hid (Below w.heap.size w w1) := hb1
  clear hb1
  go_wp2_with fail
  refine (modelEnd none 0 0 i _ (by omega)).mono ?_
  rintro e w' ⟨rfl, rfl⟩
  go_wp2
  go_ret
  exact ⟨rfl, HB1.out⟩

set_option maxHeartbeats 1000000 in
theorem law_row (x : Addr) (n cap i : Nat) (f : Nat → Int) (w : World) (hn : n ≤ 1048576) (hi2 : (i : Int) ≤ 9223372036854775807) (hcell : ∀ j, j < n → w.cell? (x.add j) = some (.int .u8 (f j))) (hr : ∀ j, 0 ≤ f j ∧ f j ≤ 255) :
    Calls Try.prog 3 #[.slice (some x) n cap, .int .i64 i] w fun e w' => e = .returned (.bool true) ∧ Below w.heap.size w w' := by
  have hi0 : ¬ (i : Int) < 0 := by omega
  have HC : Hid (∀ j, j < n → w.cell? (x.add j) = some (.int .u8 (f j))) := hcell
  have HR : Hid (∀ j, 0 ≤ f j ∧ f j ≤ 255) := hr
  clear hcell hr
  by_cases hin : i < n
  · obtain ⟨p, hp⟩ := first_ex f n (n - i) i (by omega)
    have HF : Hid (FirstJ f n i p) := hp
    clear hp
    go_enter Try.func3, Try.ntmps3
    go_wp2_with (go_at_call 4; refine (bytes4 _ _ _ _ _ (by omega)).mono ?_; rintro e w' ⟨rfl, rfl⟩)
    refine (copy_row x n cap f _ hn HC.out).mono ?_
    rintro e w1 ⟨rfl, hb1, hrow⟩
    have HB1 : Hid (Below w.heap.size w w1) := hb1
    have HROW : Hid (w1.rowIs w.heap.size 5 n (fun j => .int .u8 (f j))) := hrow
    clear hb1 hrow
    go_wp2_with fail
    refine (peekAt_row w.heap.size n n i p f _ hn HF.out (fun j hj => HROW.out.cell hj) HROW.out.lt HR.out).mono ?_
    rintro e w2 ⟨rfl, hb2⟩
    have HB2 : Hid (Below w.heap.size w w2) := HB1.out.trans (hb2.mono HB1.out.size)
    have HROW2 : Hid (∀ j, j < n → w2.cell? ⟨w.heap.size, j, none⟩ = some (.int .u8 (f j))) := fun j hj => by
      rw [hb2.cell (p := ⟨w.heap.size, j, none⟩) HROW.out.lt]; exact HROW.out.cell hj
    clear hb2
    go_wp2_with fail
    refine (model_row w.heap.size n n i p f _ hn hin HF.out HROW2.out HR.out).mono ?_
    rintro e w' ⟨rfl, rfl⟩
    clear HF HR HC HROW HROW2
    generalize ansC f n p = c
    go_wp2
    go_ret
    exact ⟨rfl, HB2.out⟩
  · go_enter Try.func3, Try.ntmps3
    go_wp2_with (go_at_call 4; refine (bytes4 _ _ _ _ _ (by omega)).mono ?_; rintro e w' ⟨rfl, rfl⟩)
    refine (copy_row x n cap f _ hn HC.out).mono ?_
    rintro e w1 ⟨rfl, hb1, hrow⟩
    have HB1 : Hid (Below w.heap.size w w1) := hb1
    clear hb1 hrow
    go_wp2_with fail
    refine (peekEnd _ n n i _ hn (by omega) hi2).mono ?_
    rintro e w2 ⟨rfl, hb2⟩
    have HB2 : Hid (Below w.heap.size w w2) := HB1.out.trans (hb2.mono HB1.out.size)
    clear hb2
    go_wp2_with fail
    refine (modelEnd _ n n i _ (by omega)).mono ?_
    rintro e w' ⟨rfl, rfl⟩
    go_wp2
    go_ret
    exact ⟨rfl, HB2.out⟩
end Go.Proofs.Qxb6604191a
