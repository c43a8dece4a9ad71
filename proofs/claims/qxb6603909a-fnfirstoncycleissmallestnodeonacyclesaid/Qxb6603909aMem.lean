/- The memory of firstOnCycle: ten blocks of fixed place, and two rows that grow. -/
import Derived.Test.Qxb6603909aRet
namespace Go.Proofs.Qxb6603909a
open Go.RowKit
set_option linter.unusedVariables false

def tyOf : Nat → TypeId
  | 0 => 50 | 1 => 21 | 2 => 23 | 3 => 21 | 4 => 23 | 5 => 4 | 6 => 37 | 7 => 23 | 8 => 79 | _ => 21
def szOf (M : Nat) : Nat → Nat
  | 0 => 2 | 1 => M | 3 => M | 5 => M | _ => 1
def vlOf (M N : Nat) (sa va : Value) (idx low : Nat → Nat) (onS : Nat → Bool) (disc : Nat) (sv cv : Value) : Nat → Nat → Value
  | 0, j => if j = 0 then sa else va
  | 1, j => .int .i32 ((idx j : Nat) : Int)
  | 2, _ => .slice (some ⟨N + 1, 0, none⟩) M M
  | 3, j => .int .i32 ((low j : Nat) : Int)
  | 4, _ => .slice (some ⟨N + 3, 0, none⟩) M M
  | 5, j => .bool (onS j)
  | 6, _ => .slice (some ⟨N + 5, 0, none⟩) M M
  | 7, _ => sv
  | 8, _ => cv
  | _, _ => .int .i32 ((disc : Nat) : Int)
structure MemR (M N : Nat) (sa va : Value) (w0 wr : World) (idx low : Nat → Nat) (onS : Nat → Bool) (disc : Nat) (sv cv : Value) : Prop where
  rows : ∀ k, k < 10 → wr.rowIs (N + k) (tyOf k) (szOf M k) (vlOf M N sa va idx low onS disc sv cv k)
  bel : Below N w0 wr
  sz : N + 10 ≤ wr.heap.size

section
variable {M N : Nat} {sa va : Value} {w0 wr : World} {idx low : Nat → Nat} {onS : Nat → Bool} {disc : Nat} {sv cv : Value}
theorem size_set (w : World) (a : Addr) (u : Value) : (w.setCell a u).heap.size = w.heap.size := by simp [World.setCell]

theorem MemR.put (h : MemR M N sa va w0 wr idx low onS disc sv cv) (k0 j0 : Nat) (u : Value) (idx' low' : Nat → Nat) (onS' : Nat → Bool) (disc' : Nat) (sv' cv' : Value)
    (e : ∀ k, k < 10 → ∀ j, j < szOf M k → (if k = k0 ∧ j = j0 then u else vlOf M N sa va idx low onS disc sv cv k j) = vlOf M N sa va idx' low' onS' disc' sv' cv' k j) :
    MemR M N sa va w0 (wr.setCell ⟨N + k0, j0, none⟩ u) idx' low' onS' disc' sv' cv' := by
  refine ⟨fun k hk => ?_, h.bel.setCell (Nat.le_add_right _ _) _, by rw [size_set]; exact h.sz⟩
  by_cases hkk : k = k0
  · subst hkk
    refine ((h.rows k hk).set j0 u).congr fun j hj => ?_
    rw [← e k hk j hj]; simp
  · refine ((h.rows k hk).setOther (a := ⟨N + k0, j0, none⟩) (by show N + k ≠ N + k0; omega) u).congr fun j hj => ?_
    rw [← e k hk j hj, if_neg (fun h => hkk h.1)]
theorem ten {k : Nat} (hk : k < 10) : k = 0 ∨ k = 1 ∨ k = 2 ∨ k = 3 ∨ k = 4 ∨ k = 5 ∨ k = 6 ∨ k = 7 ∨ k = 8 ∨ k = 9 := by omega
theorem MemR.setIdx (h : MemR M N sa va w0 wr idx low onS disc sv cv) (x v : Nat) : MemR M N sa va w0 (wr.setCell ⟨N + 1, x, none⟩ (.int .i32 ((v : Nat) : Int))) (upd idx x v) low onS disc sv cv := by
  refine h.put 1 x _ _ _ _ _ _ _ fun k hk j hj => ?_
  rcases ten hk with rfl | rfl | rfl | rfl | rfl | rfl | rfl | rfl | rfl | rfl <;> simp [vlOf, upd]
  split <;> rfl
theorem MemR.setLow (h : MemR M N sa va w0 wr idx low onS disc sv cv) (x v : Nat) : MemR M N sa va w0 (wr.setCell ⟨N + 3, x, none⟩ (.int .i32 ((v : Nat) : Int))) idx (upd low x v) onS disc sv cv := by
  refine h.put 3 x _ _ _ _ _ _ _ fun k hk j hj => ?_
  rcases ten hk with rfl | rfl | rfl | rfl | rfl | rfl | rfl | rfl | rfl | rfl <;> simp [vlOf, upd]
  split <;> rfl
theorem MemR.setOn (h : MemR M N sa va w0 wr idx low onS disc sv cv) (x : Nat) (b : Bool) : MemR M N sa va w0 (wr.setCell ⟨N + 5, x, none⟩ (.bool b)) idx low (upd onS x b) disc sv cv := by
  refine h.put 5 x _ _ _ _ _ _ _ fun k hk j hj => ?_
  rcases ten hk with rfl | rfl | rfl | rfl | rfl | rfl | rfl | rfl | rfl | rfl <;> simp [vlOf, upd]
theorem MemR.setS (h : MemR M N sa va w0 wr idx low onS disc sv cv) (u : Value) : MemR M N sa va w0 (wr.setCell ⟨N + 7, 0, none⟩ u) idx low onS disc u cv := by
  refine h.put 7 0 _ _ _ _ _ _ _ fun k hk j hj => ?_
  rcases ten hk with rfl | rfl | rfl | rfl | rfl | rfl | rfl | rfl | rfl | rfl <;> simp [vlOf, szOf] at hj ⊢ <;> omega
theorem MemR.setC (h : MemR M N sa va w0 wr idx low onS disc sv cv) (u : Value) : MemR M N sa va w0 (wr.setCell ⟨N + 8, 0, none⟩ u) idx low onS disc sv u := by
  refine h.put 8 0 _ _ _ _ _ _ _ fun k hk j hj => ?_
  rcases ten hk with rfl | rfl | rfl | rfl | rfl | rfl | rfl | rfl | rfl | rfl <;> simp [vlOf, szOf] at hj ⊢ <;> omega
theorem MemR.setD (h : MemR M N sa va w0 wr idx low onS disc sv cv) (d : Nat) : MemR M N sa va w0 (wr.setCell ⟨N + 9, 0, none⟩ (.int .i32 ((d : Nat) : Int))) idx low onS d sv cv := by
  refine h.put 9 0 _ _ _ _ _ _ _ fun k hk j hj => ?_
  rcases ten hk with rfl | rfl | rfl | rfl | rfl | rfl | rfl | rfl | rfl | rfl <;> simp [vlOf, szOf] at hj ⊢ <;> omega
theorem MemR.grown (h : MemR M N sa va w0 wr idx low onS disc sv cv) {w1 : World} {row : Option Nat} (hg : wr.grownBy w1 row) (hr : ∀ k, row = some k → N + 10 ≤ k) : MemR M N sa va w0 w1 idx low onS disc sv cv := by
  have hs := h.sz
  refine ⟨fun k hk => (h.rows k hk).of_block (hg.block (N + k) (by omega) (fun e => by have := hr _ e.symm; omega)), h.bel.grown hg (by omega) (fun k hk => by have := hr k hk; omega), by have := hg.size; omega⟩
theorem MemR.alloc (h : MemR M N sa va w0 wr idx low onS disc sv cv) (o : Obj) : MemR M N sa va w0 (wr.alloc o) idx low onS disc sv cv := h.grown (World.grownBy_alloc wr o none) (fun k hk => by cases hk)
theorem MemR.drew (h : MemR M N sa va w0 wr idx low onS disc sv cv) : MemR M N sa va w0 wr.drew idx low onS disc sv cv := ⟨fun k hk => (h.rows k hk).drew, h.bel.drew, h.sz⟩

theorem MemR.cA0 (h : MemR M N sa va w0 wr idx low onS disc sv cv) : wr.cell? ⟨N, 0, none⟩ = some sa := (h.rows 0 (by omega)).cell (i := 0) (by simp [szOf])
theorem MemR.cA1 (h : MemR M N sa va w0 wr idx low onS disc sv cv) : wr.cell? ⟨N, 1, none⟩ = some va := (h.rows 0 (by omega)).cell (i := 1) (by simp [szOf])
theorem MemR.cI (h : MemR M N sa va w0 wr idx low onS disc sv cv) {x : Nat} (hx : x < M) : wr.cell? ⟨N + 1, x, none⟩ = some (.int .i32 ((idx x : Nat) : Int)) := (h.rows 1 (by omega)).cell (i := x) hx
theorem MemR.cIv (h : MemR M N sa va w0 wr idx low onS disc sv cv) : wr.cell? ⟨N + 2, 0, none⟩ = some (.slice (some ⟨N + 1, 0, none⟩) M M) := (h.rows 2 (by omega)).cell (i := 0) (by simp [szOf])
theorem MemR.cL (h : MemR M N sa va w0 wr idx low onS disc sv cv) {x : Nat} (hx : x < M) : wr.cell? ⟨N + 3, x, none⟩ = some (.int .i32 ((low x : Nat) : Int)) := (h.rows 3 (by omega)).cell (i := x) hx
theorem MemR.cLv (h : MemR M N sa va w0 wr idx low onS disc sv cv) : wr.cell? ⟨N + 4, 0, none⟩ = some (.slice (some ⟨N + 3, 0, none⟩) M M) := (h.rows 4 (by omega)).cell (i := 0) (by simp [szOf])
theorem MemR.cO (h : MemR M N sa va w0 wr idx low onS disc sv cv) {x : Nat} (hx : x < M) : wr.cell? ⟨N + 5, x, none⟩ = some (.bool (onS x)) := (h.rows 5 (by omega)).cell (i := x) hx
theorem MemR.cOv (h : MemR M N sa va w0 wr idx low onS disc sv cv) : wr.cell? ⟨N + 6, 0, none⟩ = some (.slice (some ⟨N + 5, 0, none⟩) M M) := (h.rows 6 (by omega)).cell (i := 0) (by simp [szOf])
theorem MemR.cS (h : MemR M N sa va w0 wr idx low onS disc sv cv) : wr.cell? ⟨N + 7, 0, none⟩ = some sv := (h.rows 7 (by omega)).cell (i := 0) (by simp [szOf])
theorem MemR.cC (h : MemR M N sa va w0 wr idx low onS disc sv cv) : wr.cell? ⟨N + 8, 0, none⟩ = some cv := (h.rows 8 (by omega)).cell (i := 0) (by simp [szOf])
theorem MemR.cD (h : MemR M N sa va w0 wr idx low onS disc sv cv) : wr.cell? ⟨N + 9, 0, none⟩ = some (.int .i32 ((disc : Nat) : Int)) := (h.rows 9 (by omega)).cell (i := 0) (by simp [szOf])
theorem MemR.fz (h : MemR M N sa va w0 wr idx low onS disc sv cv) (k j : Nat) (hk : k < 10) : wr.frozen? ⟨N + k, j, none⟩ = false := (h.rows k hk).frozen j
end
end Go.Proofs.Qxb6603909a
