/- The steps at a frame's end, and the start. -/
import Derived.Test.Qxb6603909aFS
namespace Go.Proofs.Qxb6603909a
open Go.RowKit
set_option linter.unusedVariables false

section
variable {n N m : Nat} {s v : Nat → Nat} {sa va : Value} {w0 wr : World} {σ : St} {sv cv : Value}
theorem FS.popCall (h : FS n N s v sa va w0 wr σ sv cv) {x a cg ccap : Nat} {cs : List (Nat × Nat)} (hc : σ.calls = (x, a) :: cs) (hcv : cv = .slice (some ⟨cg, 0, none⟩) (cs.length + 1) ccap) :
    MemR (n - 1) N sa va w0 (wr.setCell ⟨N + 8, 0, none⟩ (.slice (some ⟨cg, 0, none⟩) cs.length ccap)) σ.idx σ.low σ.onS σ.disc sv (.slice (some ⟨cg, 0, none⟩) cs.length ccap) ∧
    (wr.setCell ⟨N + 8, 0, none⟩ (.slice (some ⟨cg, 0, none⟩) cs.length ccap)).ownsRow (N + 10) 21 1 sv σ.stk.length (stkC σ.stk) ∧
    (wr.setCell ⟨N + 8, 0, none⟩ (.slice (some ⟨cg, 0, none⟩) cs.length ccap)).ownsRow (N + 10) 81 2 (.slice (some ⟨cg, 0, none⟩) cs.length ccap) cs.length (callC cs) := by
  have hco := h.co
  rw [hc] at hco
  subst hcv
  exact ⟨h.mem.setC _, ownsRow_setCell_below h.so (by show N + 8 < N + 10; omega) _, ownsRow_setCell_below (ownsRow_pop (callC_len cs) hco) (by show N + 8 < N + 10; omega) _⟩

theorem FS.endLow (h : FS n N s v sa va w0 wr σ sv cv) {x a p b cg ccap : Nat} {cs : List (Nat × Nat)} (hc : σ.calls = (x, a) :: (p, b) :: cs) (hcv : cv = .slice (some ⟨cg, 0, none⟩) (cs.length + 1 + 1) ccap)
    (ha : a = (adjOf n s v x).length) (hlow : σ.low x ≠ σ.idx x) (L : Nat) (hL : L = Nat.min (σ.low p) (σ.low x)) :
    FS n N s v sa va w0 ((wr.setCell ⟨N + 8, 0, none⟩ (.slice (some ⟨cg, 0, none⟩) (cs.length + 1) ccap)).setCell ⟨N + 3, p, none⟩ (.int .i32 (L : Int))) { σ with calls := (p, b) :: cs, low := upd σ.low p L } sv (.slice (some ⟨cg, 0, none⟩) (cs.length + 1) ccap) := by
  obtain ⟨m1, m2, m3⟩ := h.popCall hc hcv
  subst ha
  have hi := end_inv h.inv x p b cs hc hlow
  rw [← hL] at hi
  exact ⟨hi, m1.setLow p L, ownsRow_setCell_below m2 (by show N + 3 < N + 10; omega) _, ownsRow_setCell_below m3 (by show N + 3 < N + 10; omega) _⟩

/-- While a component is popped: P is popped, A1 and x still lie above S. -/
structure PS (n N : Nat) (sa va : Value) (w0 wr : World) (σ : St) (sv cv : Value) (x : Nat) (S : List Nat) (cs : List (Nat × Nat)) (low' : Nat → Nat) (P A1 : List Nat) (on' : Nat → Bool) : Prop where
  mem : MemR (n - 1) N sa va w0 wr σ.idx low' on' σ.disc sv cv
  so : wr.ownsRow (N + 10) 21 1 sv (A1 ++ x :: S).length (stkC (A1 ++ x :: S))
  co : wr.ownsRow (N + 10) 81 2 cv cs.length (callC cs)
  hA : σ.stk = P ++ (A1 ++ x :: S)
  on : ∀ z, on' z = true ↔ σ.onS z = true ∧ z ∉ P

theorem stk_pop {on' : Nat → Bool} {low' : Nat → Nat} {t sg scap : Nat} {T : List Nat} {cs : List (Nat × Nat)} {idx : Nat → Nat} {disc : Nat} (hm : MemR (n - 1) N sa va w0 wr idx low' on' disc sv cv) (hsv : sv = .slice (some ⟨sg, 0, none⟩) (T.length + 1) scap)
    (so : wr.ownsRow (N + 10) 21 1 sv (t :: T).length (stkC (t :: T))) (co : wr.ownsRow (N + 10) 81 2 cv cs.length (callC cs)) :
    MemR (n - 1) N sa va w0 ((wr.setCell ⟨N + 7, 0, none⟩ (.slice (some ⟨sg, 0, none⟩) T.length scap)).setCell ⟨N + 5, t, none⟩ (.bool false)) idx low' (upd on' t false) disc (.slice (some ⟨sg, 0, none⟩) T.length scap) cv ∧
    ((wr.setCell ⟨N + 7, 0, none⟩ (.slice (some ⟨sg, 0, none⟩) T.length scap)).setCell ⟨N + 5, t, none⟩ (.bool false)).ownsRow (N + 10) 21 1 (.slice (some ⟨sg, 0, none⟩) T.length scap) T.length (stkC T) ∧
    ((wr.setCell ⟨N + 7, 0, none⟩ (.slice (some ⟨sg, 0, none⟩) T.length scap)).setCell ⟨N + 5, t, none⟩ (.bool false)).ownsRow (N + 10) 81 2 cv cs.length (callC cs) := by
  subst hsv
  rw [stkC_cons] at so
  have so' := ownsRow_pop (n := T.length) (by rw [stkC_len]; omega) so
  exact ⟨(hm.setS _).setOn t false, ownsRow_setCell_below (ownsRow_setCell_below so' (by show N + 7 < N + 10; omega) _) (by show N + 5 < N + 10; omega) _, ownsRow_setCell_below (ownsRow_setCell_below co (by show N + 7 < N + 10; omega) _) (by show N + 5 < N + 10; omega) _⟩

variable {x : Nat} {S : List Nat} {cs : List (Nat × Nat)} {low' : Nat → Nat} {P A1 : List Nat} {on' : Nat → Bool}
theorem PS.pop {y sg scap : Nat} (h : PS n N sa va w0 wr σ sv cv x S cs low' P (y :: A1) on') (hsv : sv = .slice (some ⟨sg, 0, none⟩) ((A1 ++ x :: S).length + 1) scap) :
    PS n N sa va w0 ((wr.setCell ⟨N + 7, 0, none⟩ (.slice (some ⟨sg, 0, none⟩) (A1 ++ x :: S).length scap)).setCell ⟨N + 5, y, none⟩ (.bool false)) σ (.slice (some ⟨sg, 0, none⟩) (A1 ++ x :: S).length scap) cv x S cs low' (P ++ [y]) A1 (upd on' y false) := by
  obtain ⟨m1, m2, m3⟩ := stk_pop h.mem hsv h.so h.co
  refine ⟨m1, m2, m3, by rw [h.hA]; simp, fun z => ?_⟩
  unfold upd
  by_cases e : z = y
  · subst e; simp
  · rw [if_neg e, h.on z]; simp [e]

theorem PS.done {sg scap a q f' : Nat} (h : PS n N sa va w0 wr σ sv cv x S cs low' P [] on') (inv : Inv (adjOf n s v) (n - 1) σ) (hsv : sv = .slice (some ⟨sg, 0, none⟩) (S.length + 1) scap)
    (hc : σ.calls = (x, a) :: cs) (ha : a = (adjOf n s v x).length) (hlow : σ.low x = σ.idx x) (hself : x ∉ adjOf n s v x) (hl : ∀ c b, (c, b) ∈ cs → low' c = σ.low c)
    (hq : (q = x ∨ q ∈ P) ∧ q ≤ x ∧ ∀ y, y ∈ P → q ≤ y) (hf : (P = [] ∧ f' = σ.first) ∨ (P ≠ [] ∧ f' = Nat.min σ.first q)) :
    FS n N s v sa va w0 ((wr.setCell ⟨N + 7, 0, none⟩ (.slice (some ⟨sg, 0, none⟩) S.length scap)).setCell ⟨N + 5, x, none⟩ (.bool false)) { σ with stk := S, onS := upd on' x false, calls := cs, low := low', first := f' } (.slice (some ⟨sg, 0, none⟩) S.length scap) cv := by
  obtain ⟨m1, m2, m3⟩ := stk_pop h.mem hsv h.so h.co
  subst ha
  have hs : σ.stk = P ++ x :: S := h.hA
  obtain ⟨g1, g2⟩ := seg_of inv hs
  refine ⟨pop_inv inv x P S cs (upd on' x false) low' f' hs hc hlow hself (fun z => ?_) hl ?_, m1, m2, m3⟩
  · unfold upd
    by_cases e : z = x
    · subst e
      rw [if_pos rfl]
      exact ⟨fun hz => by have := g2 z hz; omega, fun hz => by cases hz⟩
    · rw [if_neg e, h.on z, ← inv.stk_on z, hs]
      refine ⟨fun hz => ⟨List.mem_append_right _ (List.mem_cons_of_mem _ hz), fun hp => ?_⟩, fun ⟨h1, h2⟩ => ?_⟩
      · have := g1 z hp; have := g2 z hz; omega
      · rcases List.mem_append.1 h1 with h1 | h1
        · exact absurd h1 h2
        · rcases List.mem_cons.1 h1 with h1 | h1
          · exact absurd h1 e
          · exact h1
  · rcases hf with hf | ⟨hf1, hf2⟩
    · exact .inl hf
    · exact .inr ⟨hf1, q, hq.1.symm, hq.2.2, hq.2.1, hf2⟩
end

theorem row_at (W : World) (c : Array Value) (t : TypeId) (f : Nat → Value) (b sz : Nat) (hs : W.heap.size = b) (hz : c.size = sz) (hc : ∀ i, i < sz → c[i]? = some (f i)) : (W.alloc (.cells c t)).rowIs b t sz f := by
  subst hs; subst hz; exact World.rowIs_alloc W c t f hc
theorem size_alloc (W : World) (o : Obj) : (W.alloc o).heap.size = W.heap.size + 1 := by simp only [World.alloc, Array.size_push]
theorem start_mem (M : Nat) (sa va : Value) (w w1 w2 w3 w4 w5 w6 w7 w8 w9 w10 : World) (h1 : w1 = w.alloc (.cells #[sa, va] 50)) (h2 : w2 = w1.alloc (.cells (madeCells #[.int .i32 0] M) 21))
    (h3 : w3 = w2.alloc (.cells #[.slice (some ⟨w.heap.size + 1, 0, none⟩) M M] 23)) (h4 : w4 = w3.alloc (.cells (madeCells #[.int .i32 0] M) 21)) (h5 : w5 = w4.alloc (.cells #[.slice (some ⟨w.heap.size + 3, 0, none⟩) M M] 23))
    (h6 : w6 = w5.alloc (.cells (madeCells #[.bool false] M) 4)) (h7 : w7 = w6.alloc (.cells #[.slice (some ⟨w.heap.size + 5, 0, none⟩) M M] 37)) (h8 : w8 = w7.alloc (.cells #[.slice none 0 0] 23))
    (h9 : w9 = w8.alloc (.cells #[.slice none 0 0] 79)) (h10 : w10 = w9.alloc (.cells #[.int .i32 0] 21)) :
    MemR M w.heap.size sa va w w10 (fun _ => 0) (fun _ => 0) (fun _ => false) 0 (.slice none 0 0) (.slice none 0 0) := by
  have s1 : w1.heap.size = w.heap.size + 1 := by rw [h1, size_alloc]
  have s2 : w2.heap.size = w.heap.size + 2 := by rw [h2, size_alloc, s1]
  have s3 : w3.heap.size = w.heap.size + 3 := by rw [h3, size_alloc, s2]
  have s4 : w4.heap.size = w.heap.size + 4 := by rw [h4, size_alloc, s3]
  have s5 : w5.heap.size = w.heap.size + 5 := by rw [h5, size_alloc, s4]
  have s6 : w6.heap.size = w.heap.size + 6 := by rw [h6, size_alloc, s5]
  have s7 : w7.heap.size = w.heap.size + 7 := by rw [h7, size_alloc, s6]
  have s8 : w8.heap.size = w.heap.size + 8 := by rw [h8, size_alloc, s7]
  have s9 : w9.heap.size = w.heap.size + 9 := by rw [h9, size_alloc, s8]
  have s10 : w10.heap.size = w.heap.size + 10 := by rw [h10, size_alloc, s9]
  have mk : ∀ (W : World) (z : Value) (t : TypeId) (b : Nat), W.heap.size = b → (W.alloc (.cells (madeCells #[z] M) t)).rowIs b t M (fun _ => z) := fun W z t b hb => by subst hb; exact World.rowIs_made W z M t
  have one : ∀ (W : World) (z : Value) (t : TypeId) (b : Nat) (f : Nat → Value), W.heap.size = b → f 0 = z → (W.alloc (.cells #[z] t)).rowIs b t 1 f := by
    intro W z t b f hb hf
    refine row_at W _ _ _ _ _ hb rfl (fun i hi => ?_)
    have hi0 : i = 0 := by omega
    subst hi0
    rw [hf]; rfl
  have r0 : w1.rowIs (w.heap.size + 0) 50 2 (fun j => if j = 0 then sa else va) := by
    rw [h1]; exact row_at w _ _ _ _ _ rfl rfl (fun i hi => by
      have : i = 0 ∨ i = 1 := by omega
      rcases this with rfl | rfl <;> rfl)
  have r1 : w2.rowIs (w.heap.size + 1) 21 M (fun _ => .int .i32 0) := by rw [h2]; exact mk _ _ _ _ s1
  have r2 : w3.rowIs (w.heap.size + 2) 23 1 (fun _ => .slice (some ⟨w.heap.size + 1, 0, none⟩) M M) := by rw [h3]; exact one _ _ _ _ _ s2 rfl
  have r3 : w4.rowIs (w.heap.size + 3) 21 M (fun _ => .int .i32 0) := by rw [h4]; exact mk _ _ _ _ s3
  have r4 : w5.rowIs (w.heap.size + 4) 23 1 (fun _ => .slice (some ⟨w.heap.size + 3, 0, none⟩) M M) := by rw [h5]; exact one _ _ _ _ _ s4 rfl
  have r5 : w6.rowIs (w.heap.size + 5) 4 M (fun _ => .bool false) := by rw [h6]; exact mk _ _ _ _ s5
  have r6 : w7.rowIs (w.heap.size + 6) 37 1 (fun _ => .slice (some ⟨w.heap.size + 5, 0, none⟩) M M) := by rw [h7]; exact one _ _ _ _ _ s6 rfl
  have r7 : w8.rowIs (w.heap.size + 7) 23 1 (fun _ => .slice none 0 0) := by rw [h8]; exact one _ _ _ _ _ s7 rfl
  have r8 : w9.rowIs (w.heap.size + 8) 79 1 (fun _ => .slice none 0 0) := by rw [h9]; exact one _ _ _ _ _ s8 rfl
  have r9 : w10.rowIs (w.heap.size + 9) 21 1 (fun _ => .int .i32 0) := by rw [h10]; exact one _ _ _ _ _ s9 rfl
  have hb : Below w.heap.size w w10 := by
    rw [h10]; refine Below.alloc ?_ (by omega) _
    rw [h9]; refine Below.alloc ?_ (by omega) _
    rw [h8]; refine Below.alloc ?_ (by omega) _
    rw [h7]; refine Below.alloc ?_ (by omega) _
    rw [h6]; refine Below.alloc ?_ (by omega) _
    rw [h5]; refine Below.alloc ?_ (by omega) _
    rw [h4]; refine Below.alloc ?_ (by omega) _
    rw [h3]; refine Below.alloc ?_ (by omega) _
    rw [h2]; refine Below.alloc ?_ (by omega) _
    rw [h1]; exact (Below.refl _ _).alloc (Nat.le_refl _) _
  refine ⟨fun k hk => ?_, hb, by omega⟩
  rcases ten hk with rfl | rfl | rfl | rfl | rfl | rfl | rfl | rfl | rfl | rfl
  · rw [h10, h9, h8, h7, h6, h5, h4, h3, h2]; exact ((((((((r0.alloc _).alloc _).alloc _).alloc _).alloc _).alloc _).alloc _).alloc _).alloc _
  · rw [h10, h9, h8, h7, h6, h5, h4, h3]; exact (((((((r1.alloc _).alloc _).alloc _).alloc _).alloc _).alloc _).alloc _).alloc _
  · rw [h10, h9, h8, h7, h6, h5, h4]; exact ((((((r2.alloc _).alloc _).alloc _).alloc _).alloc _).alloc _).alloc _
  · rw [h10, h9, h8, h7, h6, h5]; exact (((((r3.alloc _).alloc _).alloc _).alloc _).alloc _).alloc _
  · rw [h10, h9, h8, h7, h6]; exact ((((r4.alloc _).alloc _).alloc _).alloc _).alloc _
  · rw [h10, h9, h8, h7]; exact (((r5.alloc _).alloc _).alloc _).alloc _
  · rw [h10, h9, h8]; exact ((r6.alloc _).alloc _).alloc _
  · rw [h10, h9]; exact (r7.alloc _).alloc _
  · rw [h10]; exact r8.alloc _
  · exact r9
end Go.Proofs.Qxb6603909a
