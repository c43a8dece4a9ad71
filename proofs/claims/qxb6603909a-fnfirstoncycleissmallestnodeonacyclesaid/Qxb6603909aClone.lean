/- cloneInts, cloneInt32s, the length test and cycleArgsOK, walked. -/
import Derived.Test.Qxb6603909aRows
import Derived.WalkKit
import Derived.WalkSpells
import Derived.Below
import Derived.WalkSmall
import Derived.Deep.OwnRows
import Derived.Deep.QuietTactic
import Derived.BigQuiet
import Derived.Deep.Light
namespace Go.Proofs.Qxb6603909a
open Go.RowKit
set_option linter.unusedVariables false

theorem Try.info3 : (Try.prog.info? 3).map (fun i => (i.zero, i.size, i.bytes)) = some (some (.int .i64 0), 1, 8) := by kernel_rfl
theorem Try.info21 : (Try.prog.info? 21).map (fun i => (i.zero, i.size, i.bytes)) = some (some (.int .i32 0), 1, 4) := by kernel_rfl

set_option maxHeartbeats 1000000 in
theorem clone8_row (x : Addr) (n cap : Nat) (f : Nat → Int) (w : World) (hn : n ≤ 1048576) (hcell : ∀ j, j < n → w.cell? (x.add j) = some (.int .i64 (f j))) :
    Calls Try.prog 8 #[.slice (some x) n cap] w fun e w' => e = .returned (.slice (some ⟨w.heap.size, 0, none⟩) n n) ∧ Below w.heap.size w w' ∧ w'.rowIs w.heap.size 3 n (fun j => .int .i64 (f j)) := by
  have hmk := run_make_row' (P := Try.prog) 22 3 (.int .i64 0) 8 Try.underlying22 Try.info3 rfl .i64 .i64 n (by omega) (by omega)
  have heq := fun w => Lib.run_eql_slice_nil (P := Try.prog) w 22 3 (some x) n cap 0 0 Try.underlying22
  go_enter Try.func8, Try.ntmps8
  go_wp2
  go_loopw [4] (fun i wr => ∃ k : Nat, k ≤ n ∧ i = .int .i64 k ∧ Below w.heap.size w wr ∧ wr.rowIs w.heap.size 3 n (fun j => .int .i64 (if j < k then f j else 0))) (fun i _ => n - (intOf i).toNat)
  case atStart => exact ⟨0, Nat.zero_le _, rfl, (Below.refl _ _).alloc (Nat.le_refl _) _, (World.rowIs_made w (.int .i64 0) n 3).congr fun j hj => by rw [if_neg (by omega)]⟩
  case round =>
    obtain ⟨k, hk, rfl, hb, hr⟩ := hrel
    by_cases hlt : k < n
    · have hlti : (k : Int) < (n : Int) := by omega
      have hold := World.block_lt_of_cell? _ _ (hcell k hlt)
      have hc1 : wr.cell? (x.add k) = some (.int .i64 (f k)) := by rw [hb.cell hold]; exact hcell k hlt
      have hc2 := hr.cell hlt
      have hf2 := hr.frozen k
      rw [if_neg (by omega)] at hc2
      have HB : Hid (∀ v, Below w.heap.size w (wr.setCell ⟨w.heap.size, k, none⟩ v)) := fun v => hb.setCell (Nat.le_refl _) v
      have HR : Hid ((wr.setCell ⟨w.heap.size, k, none⟩ (.int .i64 (f k))).rowIs w.heap.size 3 n (fun j => .int .i64 (if j < k + 1 then f j else 0))) :=
        (hr.set k (.int .i64 (f k))).congr fun j hj => by
          by_cases e : j = k
          · subst e; rw [if_pos rfl, if_pos (by omega)]
          · rw [if_neg e]
            by_cases e2 : j < k
            · rw [if_pos e2, if_pos (by omega)]
            · rw [if_neg e2, if_neg (by omega)]
      clear hb hr hold hcell
      go_wp2
      exact ⟨⟨k + 1, by omega, by go_num, HB.out _, HR.out⟩, by simp [intOf]; omega⟩
    · have HB : Hid (Below w.heap.size w wr) := hb
      have HR : Hid (wr.rowIs w.heap.size 3 n (fun j => .int .i64 (f j))) := hr.congr fun j hj => by rw [if_pos (by omega)]
      clear hb hr hcell
      go_wp2
      go_ret
      exact ⟨rfl, HB.out, HR.out⟩
theorem clone8_nil (w : World) : Calls Try.prog 8 #[.slice none 0 0] w fun e w' => e = .returned (.slice none 0 0) ∧ w = w' := by
  have heq := fun w => Lib.run_eql_slice_nil (P := Try.prog) w 22 3 none 0 0 0 0 Try.underlying22
  go_enter Try.func8, Try.ntmps8
  go_wp2
  go_ret
  exact ⟨rfl, rfl⟩

set_option maxHeartbeats 1000000 in
theorem clone9_row (x : Addr) (n cap : Nat) (f : Nat → Int) (w : World) (hn : n ≤ 1048576) (hcell : ∀ j, j < n → w.cell? (x.add j) = some (.int .i32 (f j))) :
    Calls Try.prog 9 #[.slice (some x) n cap] w fun e w' => e = .returned (.slice (some ⟨w.heap.size, 0, none⟩) n n) ∧ Below w.heap.size w w' ∧ w'.rowIs w.heap.size 21 n (fun j => .int .i32 (f j)) := by
  have hmk := run_make_row' (P := Try.prog) 23 21 (.int .i32 0) 4 Try.underlying23 Try.info21 rfl .i64 .i64 n (by omega) (by omega)
  have heq := fun w => Lib.run_eql_slice_nil (P := Try.prog) w 23 21 (some x) n cap 0 0 Try.underlying23
  go_enter Try.func9, Try.ntmps9
  go_wp2
  go_loopw [4] (fun i wr => ∃ k : Nat, k ≤ n ∧ i = .int .i64 k ∧ Below w.heap.size w wr ∧ wr.rowIs w.heap.size 21 n (fun j => .int .i32 (if j < k then f j else 0))) (fun i _ => n - (intOf i).toNat)
  case atStart => exact ⟨0, Nat.zero_le _, rfl, (Below.refl _ _).alloc (Nat.le_refl _) _, (World.rowIs_made w (.int .i32 0) n 21).congr fun j hj => by rw [if_neg (by omega)]⟩
  case round =>
    obtain ⟨k, hk, rfl, hb, hr⟩ := hrel
    by_cases hlt : k < n
    · have hlti : (k : Int) < (n : Int) := by omega
      have hold := World.block_lt_of_cell? _ _ (hcell k hlt)
      have hc1 : wr.cell? (x.add k) = some (.int .i32 (f k)) := by rw [hb.cell hold]; exact hcell k hlt
      have hc2 := hr.cell hlt
      have hf2 := hr.frozen k
      rw [if_neg (by omega)] at hc2
      have HB : Hid (∀ v, Below w.heap.size w (wr.setCell ⟨w.heap.size, k, none⟩ v)) := fun v => hb.setCell (Nat.le_refl _) v
      have HR : Hid ((wr.setCell ⟨w.heap.size, k, none⟩ (.int .i32 (f k))).rowIs w.heap.size 21 n (fun j => .int .i32 (if j < k + 1 then f j else 0))) :=
        (hr.set k (.int .i32 (f k))).congr fun j hj => by
          by_cases e : j = k
          · subst e; rw [if_pos rfl, if_pos (by omega)]
          · rw [if_neg e]
            by_cases e2 : j < k
            · rw [if_pos e2, if_pos (by omega)]
            · rw [if_neg e2, if_neg (by omega)]
      clear hb hr hold hcell
      go_wp2
      exact ⟨⟨k + 1, by omega, by go_num, HB.out _, HR.out⟩, by simp [intOf]; omega⟩
    · have HB : Hid (Below w.heap.size w wr) := hb
      have HR : Hid (wr.rowIs w.heap.size 21 n (fun j => .int .i32 (f j))) := hr.congr fun j hj => by rw [if_pos (by omega)]
      clear hb hr hcell
      go_wp2
      go_ret
      exact ⟨rfl, HB.out, HR.out⟩
theorem clone9_nil (w : World) : Calls Try.prog 9 #[.slice none 0 0] w fun e w' => e = .returned (.slice none 0 0) ∧ w = w' := by
  have heq := fun w => Lib.run_eql_slice_nil (P := Try.prog) w 23 21 none 0 0 0 0 Try.underlying23
  go_enter Try.func9, Try.ntmps9
  go_wp2
  go_ret
  exact ⟨rfl, rfl⟩

theorem bytes7 (a b : Option Addr) (n m c d : Nat) (w : World) (h : (n : Int) + m ≤ 1048576) :
    Calls Try.prog 7 #[.slice a n c, .slice b m d] w fun e w' => e = .returned (.bool true) ∧ w = w' := by
  go_enter Try.func7, Try.ntmps7
  go_wp2
  go_ret
  exact ⟨rfl, rfl⟩
end Go.Proofs.Qxb6603909a
