/- The search's state in memory, and its steps. -/
import Derived.Test.Qxb6603909aOf
namespace Go.Proofs.Qxb6603909a
open Go.RowKit
set_option linter.unusedVariables false

def stkC (l : List Nat) : List Value := l.reverse.map (fun v : Nat => Value.int .i32 (v : Int))
def callC : List (Nat × Nat) → List Value
  | [] => []
  | c :: cs => callC cs ++ [Value.int .i32 (c.1 : Int), .int .i64 (c.2 : Int)]
theorem stkC_cons (x : Nat) (l : List Nat) : stkC (x :: l) = stkC l ++ [.int .i32 (x : Int)] := by simp [stkC]
theorem stkC_len (l : List Nat) : (stkC l).length = l.length := by simp [stkC]
theorem callC_len : ∀ l : List (Nat × Nat), (callC l).length = l.length * 2
  | [] => rfl
  | c :: cs => by simp [callC, callC_len cs]; omega

structure FS (n N : Nat) (s v : Nat → Nat) (sa va : Value) (w0 wr : World) (σ : St) (sv cv : Value) : Prop where
  inv : Inv (adjOf n s v) (n - 1) σ
  mem : MemR (n - 1) N sa va w0 wr σ.idx σ.low σ.onS σ.disc sv cv
  so : wr.ownsRow (N + 10) 21 1 sv σ.stk.length (stkC σ.stk)
  co : wr.ownsRow (N + 10) 81 2 cv σ.calls.length (callC σ.calls)

theorem nodup_of_ord {idx : Nat → Nat} : ∀ {l : List Nat}, l.Pairwise (fun x y => idx y < idx x) → l.Nodup
  | [], _ => List.nodup_nil
  | a :: l, h => by
    rw [List.pairwise_cons] at h
    rw [List.nodup_cons]
    exact ⟨fun hm => Nat.lt_irrefl _ (h.1 a hm), nodup_of_ord h.2⟩
theorem Inv.stk_len {adj : Nat → List Nat} {N : Nat} {σ : St} (h : Inv adj N σ) : σ.stk.length ≤ N :=
  nodup_le N σ.stk (nodup_of_ord h.ord) (fun x hx => h.idx_lt x (h.stk_pos x hx))
theorem Inv.calls_len {adj : Nat → List Nat} {N : Nat} {σ : St} (h : Inv adj N σ) : σ.calls.length ≤ N := by
  have := nodup_le N (σ.calls.map (·.1)) (nodup_of_ord (idx := σ.idx) (List.pairwise_map.2 h.c_ord)) (fun x hx => by
    obtain ⟨⟨c, a⟩, hc, rfl⟩ := List.mem_map.1 hx
    exact h.idx_lt c (h.stk_pos c (h.c_stk c a hc)))
  rwa [List.length_map] at this

section
variable {n N m : Nat} {s v : Nat → Nat} {sa va : Value} {w0 wr : World} {σ : St} {sv cv : Value}
theorem FS.after (h : FS n N s v sa va w0 wr σ sv cv) {w1 : World} (hb : Below wr.heap.size wr w1) : FS n N s v sa va w0 w1 σ sv cv :=
  ⟨h.inv, h.mem.after hb, own_after h.so hb, own_after h.co hb⟩

def VisArgs (N x : Nat) : Array Value := #[.int .i32 x, .pointer (some ⟨N + 9, 0, none⟩), .pointer (some ⟨N + 2, 0, none⟩), .pointer (some ⟨N + 4, 0, none⟩), .pointer (some ⟨N + 7, 0, none⟩), .pointer (some ⟨N + 6, 0, none⟩), .pointer (some ⟨N + 8, 0, none⟩)]
theorem FS.root (h : FS n N s v sa va w0 wr σ sv cv) (hn : n ≤ 4096) (hc : σ.calls = []) (x : Nat) (hx : x + 1 < n) (h0 : σ.idx x = 0) :
    Calls Try.prog 35 #[.int .i32 x, .pointer (some ⟨N + 9, 0, none⟩), .pointer (some ⟨N + 2, 0, none⟩), .pointer (some ⟨N + 4, 0, none⟩), .pointer (some ⟨N + 7, 0, none⟩), .pointer (some ⟨N + 6, 0, none⟩), .pointer (some ⟨N + 8, 0, none⟩)] wr fun e w' =>
      e = .returned (.tuple #[]) ∧ ∃ sv' cv', FS n N s v sa va w0 w' (σ.visit x []) sv' cv' := by
  have b1 := h.inv.stk_len
  have b2 := h.inv.calls_len
  have b3 := h.inv.count
  refine (visit_walk x _ _ _ _ wr (by omega) (by omega) (by omega) (by omega) (by omega) h.mem h.so h.co).mono ?_
  rintro e w' ⟨rfl, sv', cv', h1, h2, h3⟩
  refine ⟨rfl, sv', cv', visit_inv h.inv x (by omega) h0 [] (fun c a' hh => by cases hh) (fun c a hh => by rw [hc] at hh; cases hh) List.Pairwise.nil (fun c a hh => by rw [hc] at hh; cases hh), h1, ?_, ?_⟩
  · show w'.ownsRow (N + 10) 21 1 sv' (σ.stk.length + 1) (stkC (x :: σ.stk))
    rw [stkC_cons]; exact h2
  · rw [hc] at h3; exact h3

/-- The top frame's arc counted. -/
theorem FS.next (h : FS n N s v sa va w0 wr σ sv cv) {x a cg ccap : Nat} {cs : List (Nat × Nat)} (hc : σ.calls = (x, a) :: cs) (hcv : cv = .slice (some ⟨cg, 0, none⟩) (cs.length + 1) ccap) :
    MemR (n - 1) N sa va w0 (wr.setCell ⟨cg, cs.length * 2 + 1, none⟩ (.int .i64 ((a : Int) + 1))) σ.idx σ.low σ.onS σ.disc sv cv ∧
    (wr.setCell ⟨cg, cs.length * 2 + 1, none⟩ (.int .i64 ((a : Int) + 1))).ownsRow (N + 10) 21 1 sv σ.stk.length (stkC σ.stk) ∧
    (wr.setCell ⟨cg, cs.length * 2 + 1, none⟩ (.int .i64 ((a : Int) + 1))).ownsRow (N + 10) 81 2 cv ((x, a + 1) :: cs).length (callC ((x, a + 1) :: cs)) := by
  have hco := h.co
  rw [hc] at hco
  subst hcv
  obtain ⟨h1, h2⟩ := hco.stored (cs.length * 2 + 1) (.int .i64 ((a : Int) + 1))
  refine ⟨h.mem.grown h2 (fun k hk => ?_), h.so.kept h2 (own_apart h.so hco (by decide)), ?_⟩
  · have e : cg = k := Option.some.inj hk
    subst e; exact own_base hco cg rfl
  · have e : (callC ((x, a) :: cs)).set (cs.length * 2 + 1) (.int .i64 ((a : Int) + 1)) = callC ((x, a + 1) :: cs) := by
      have hl := callC_len cs
      show (callC cs ++ [Value.int .i32 (x : Int), .int .i64 (a : Int)]).set _ _ = callC cs ++ [Value.int .i32 (x : Int), .int .i64 ((a + 1 : Nat) : Int)]
      rw [List.set_append_right _ _ (by omega), show cs.length * 2 + 1 - (callC cs).length = 1 by omega]
      rfl
    rw [e] at h1; exact h1

theorem FS.arcVisit (h : FS n N s v sa va w0 wr σ sv cv) (hn : n ≤ 4096) {x a y cg ccap : Nat} {cs : List (Nat × Nat)} (hc : σ.calls = (x, a) :: cs) (hcv : cv = .slice (some ⟨cg, 0, none⟩) (cs.length + 1) ccap)
    (ha : (adjOf n s v x)[a]? = some y) (hy : y + 1 < n) (h0 : σ.idx y = 0) :
    Calls Try.prog 35 #[.int .i32 y, .pointer (some ⟨N + 9, 0, none⟩), .pointer (some ⟨N + 2, 0, none⟩), .pointer (some ⟨N + 4, 0, none⟩), .pointer (some ⟨N + 7, 0, none⟩), .pointer (some ⟨N + 6, 0, none⟩), .pointer (some ⟨N + 8, 0, none⟩)] (wr.setCell ⟨cg, cs.length * 2 + 1, none⟩ (.int .i64 ((a : Int) + 1))) fun e w' =>
      e = .returned (.tuple #[]) ∧ ∃ sv' cv', FS n N s v sa va w0 w' (σ.visit y ((x, a + 1) :: cs)) sv' cv' := by
  have b1 := h.inv.stk_len
  have b2 := h.inv.calls_len
  have b3 := h.inv.count
  obtain ⟨m1, m2, m3⟩ := h.next hc hcv
  have hal : a < (adjOf n s v x).length := (List.getElem?_eq_some_iff.1 ha).1
  have hmem : y ∈ adjOf n s v x := List.mem_of_getElem? ha
  have htop : (x, a) ∈ σ.calls := by rw [hc]; exact List.mem_cons_self
  have hcl : ((x, a + 1) :: cs).length ≤ n - 1 := by rw [hc] at b2; exact b2
  refine (visit_walk y _ _ _ _ _ (by omega) (by omega) (by omega) (by omega) (by omega) m1 m2 m3).mono ?_
  rintro e w' ⟨rfl, sv', cv', h1, h2, h3⟩
  have hord := h.inv.c_ord
  rw [hc] at hord
  refine ⟨rfl, sv', cv', visit_inv h.inv y (by omega) h0 ((x, a + 1) :: cs) (fun c a' hh => ?_) (fun c b hh => ?_) ?_ (fun c b hh => ?_), h1, ?_, h3⟩
  · rcases List.mem_cons.1 hh with e | hh
    · obtain ⟨rfl, rfl⟩ := Prod.mk.inj e
      refine ⟨a, htop, hal, fun z hz => ?_⟩
      rw [take_next _ a y ha] at hz
      rcases List.mem_append.1 hz with hz | hz
      · exact .inl hz
      · exact .inr (List.mem_singleton.1 hz)
    · have hm : (c, a') ∈ σ.calls := by rw [hc]; exact List.mem_cons_of_mem _ hh
      exact ⟨a', hm, h.inv.c_le c a' hm, fun z hz => .inl hz⟩
  · rw [hc] at hh
    rcases List.mem_cons.1 hh with e | hh
    · obtain ⟨rfl, rfl⟩ := Prod.mk.inj e
      exact ⟨_, List.mem_cons_self⟩
    · exact ⟨b, List.mem_cons_of_mem _ hh⟩
  · rw [List.pairwise_cons] at hord ⊢
    exact hord
  · have hcx : R (adjOf n s v) c x := h.inv.down c b hh x (h.inv.c_stk x a htop) (by
      rw [hc] at hh
      rcases List.mem_cons.1 hh with e | hh
      · obtain ⟨rfl, rfl⟩ := Prod.mk.inj e; omega
      · exact Nat.le_of_lt (top_max hord hh))
    exact hcx.trans (R.step hmem)
  · show w'.ownsRow (N + 10) 21 1 sv' (σ.stk.length + 1) (stkC (y :: σ.stk))
    rw [stkC_cons]; exact h2

/-- An arc to a node that is found and off the stack. -/
theorem FS.arcOff (h : FS n N s v sa va w0 wr σ sv cv) {x a y cg ccap : Nat} {cs : List (Nat × Nat)} (hc : σ.calls = (x, a) :: cs) (hcv : cv = .slice (some ⟨cg, 0, none⟩) (cs.length + 1) ccap)
    (ha : (adjOf n s v x)[a]? = some y) (h0 : σ.idx y ≠ 0) (hon : σ.onS y = false) :
    FS n N s v sa va w0 (wr.setCell ⟨cg, cs.length * 2 + 1, none⟩ (.int .i64 ((a : Int) + 1))) { σ with calls := (x, a + 1) :: cs } sv cv := by
  obtain ⟨m1, m2, m3⟩ := h.next hc hcv
  have hi := arc_inv h.inv x a y (σ.low x) cs hc ha h0 (Nat.le_refl _) (.inl rfl) (fun e => by rw [hon] at e; cases e)
  have e : upd σ.low x (σ.low x) = σ.low := by funext z; unfold upd; split; (rename_i e; rw [e]); rfl
  rw [e] at hi
  exact ⟨hi, m1, m2, m3⟩
/-- An arc to a node that is found and on the stack. -/
theorem FS.arcOn (h : FS n N s v sa va w0 wr σ sv cv) {x a y cg ccap : Nat} {cs : List (Nat × Nat)} (hc : σ.calls = (x, a) :: cs) (hcv : cv = .slice (some ⟨cg, 0, none⟩) (cs.length + 1) ccap)
    (ha : (adjOf n s v x)[a]? = some y) (h0 : σ.idx y ≠ 0) (hon : σ.onS y = true) (L : Nat) (hL : L = Nat.min (σ.low x) (σ.idx y)) :
    FS n N s v sa va w0 ((wr.setCell ⟨cg, cs.length * 2 + 1, none⟩ (.int .i64 ((a : Int) + 1))).setCell ⟨N + 3, x, none⟩ (.int .i32 (L : Int))) { σ with calls := (x, a + 1) :: cs, low := upd σ.low x L } sv cv := by
  obtain ⟨m1, m2, m3⟩ := h.next hc hcv
  have hm : L ≤ σ.low x ∧ L ≤ σ.idx y ∧ (L = σ.low x ∨ L = σ.idx y) := by
    have := Nat.min_le_left (σ.low x) (σ.idx y)
    have := Nat.min_le_right (σ.low x) (σ.idx y)
    subst hL
    refine ⟨by assumption, by assumption, ?_⟩
    rcases Nat.le_total (σ.low x) (σ.idx y) with e | e
    · exact .inl (Nat.min_eq_left e)
    · exact .inr (Nat.min_eq_right e)
  have hi := arc_inv h.inv x a y L cs hc ha h0 hm.1 (hm.2.2.elim .inl fun e => .inr ⟨(h.inv.stk_on y).2 hon, e⟩) (fun _ => hm.2.1)
  exact ⟨hi, m1.setLow x L, ownsRow_setCell_below m2 (by show N + 3 < N + 10; omega) _, ownsRow_setCell_below m3 (by show N + 3 < N + 10; omega) _⟩
end
end Go.Proofs.Qxb6603909a
