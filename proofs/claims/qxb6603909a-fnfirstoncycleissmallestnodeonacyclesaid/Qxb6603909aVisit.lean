/- The literal visit, walked. -/
import Derived.Test.Qxb6603909aMem
namespace Go.Proofs.Qxb6603909a
open Go.RowKit
set_option linter.unusedVariables false

theorem Try.info81 : (Try.prog.info? 81).map (fun i => (i.zero, i.size, i.bytes)) = some (some (.agg #[.int .i32 0, .int .i64 0]), 2, 16) := by kernel_rfl

/-- Two owned rows of other kinds are apart. -/
theorem own_apart {w : World} {b1 b2 : Nat} {e1 e2 : TypeId} {s1 s2 : Nat} {v1 v2 : Value} {n1 n2 : Nat} {x1 x2 : List Value} (h1 : w.ownsRow b1 e1 s1 v1 n1 x1) (h2 : w.ownsRow b2 e2 s2 v2 n2 x2) (hne : e1 ≠ e2) : v1.ownBlock = none ∨ v1.ownBlock ≠ v2.ownBlock := by
  rcases h1.2 with ⟨rfl, _⟩ | ⟨g, cap, cur, rfl, _, hg, _⟩
  · exact .inl rfl
  · refine .inr fun e => ?_
    rcases h2.2 with ⟨rfl, _⟩ | ⟨g', cap', cur', rfl, _, hg', _⟩
    · cases e
    · have e' : g = g' := Option.some.inj e
      subst e'
      rw [hg] at hg'
      injection hg' with hg'
      injection hg' with _ hg' _
      exact hne hg'
theorem own_base {w : World} {b : Nat} {e : TypeId} {s : Nat} {v : Value} {n : Nat} {xs : List Value} (h : w.ownsRow b e s v n xs) : ∀ k, v.ownBlock = some k → b ≤ k := fun k hk => (h.lt k hk).1

set_option maxHeartbeats 1000000 in
theorem visit_walk {M N : Nat} {sa va : Value} {w0 : World} {idx low : Nat → Nat} {onS : Nat → Bool} {disc : Nat} {sv cv : Value} (x ns nc : Nat) (S C : List Value) (w : World)
    (hx : x < M) (hM : M ≤ 4096) (hd : disc ≤ 4096) (hns : ns ≤ 4096) (hnc : nc ≤ 4096)
    (h : MemR M N sa va w0 w idx low onS disc sv cv) (so : w.ownsRow (N + 10) 21 1 sv ns S) (co : w.ownsRow (N + 10) 81 2 cv nc C) :
    Calls Try.prog 35 #[.int .i32 x, .pointer (some ⟨N + 9, 0, none⟩), .pointer (some ⟨N + 2, 0, none⟩), .pointer (some ⟨N + 4, 0, none⟩), .pointer (some ⟨N + 7, 0, none⟩), .pointer (some ⟨N + 6, 0, none⟩), .pointer (some ⟨N + 8, 0, none⟩)] w fun e w' =>
      e = .returned (.tuple #[]) ∧ ∃ sv' cv', MemR M N sa va w0 w' (upd idx x (disc + 1)) (upd low x (disc + 1)) (upd onS x true) (disc + 1) sv' cv' ∧ w'.ownsRow (N + 10) 21 1 sv' (ns + 1) (S ++ [.int .i32 x]) ∧ w'.ownsRow (N + 10) 81 2 cv' (nc + 1) (C ++ [.int .i32 x, .int .i64 0]) := by
  have H : Hid (MemR M N sa va w0 w idx low onS disc sv cv) := h
  have SO : Hid (w.ownsRow (N + 10) 21 1 sv ns S) := so
  have CO : Hid (w.ownsRow (N + 10) 81 2 cv nc C) := co
  have c1 := h.cD
  have c2 := h.cIv
  have c3 := h.cLv
  have f1 := h.fz 9 0 (by omega)
  have f2 := h.fz 1 x (by omega)
  have f3 := h.fz 3 x (by omega)
  have c4 := h.cI hx
  have c5 := h.cL hx
  have c6 := h.cS
  have hxi : (x : Int) < (M : Int) := by omega
  obtain ⟨i21, hi, hz⟩ := Option.map_eq_some_iff.1 Try.info21
  have HI : Hid (Try.prog.info? 21 = some i21 ∧ i21.zero = some (.int .i32 0) ∧ i21.size = 1 ∧ i21.bytes = 4) := by simp only [Prod.mk.injEq] at hz; exact ⟨hi, hz⟩
  obtain ⟨i81, hi2, hz2⟩ := Option.map_eq_some_iff.1 Try.info81
  have HI2 : Hid (Try.prog.info? 81 = some i81 ∧ i81.zero = some (.agg #[.int .i32 0, .int .i64 0]) ∧ i81.size = 2 ∧ i81.bytes = 16) := by simp only [Prod.mk.injEq] at hz2; exact ⟨hi2, hz2⟩
  have H3 : Hid (MemR M N sa va w0 (((w.setCell ⟨N + 9, 0, none⟩ (.int .i32 ((disc : Int) + 1))).setCell ⟨N + 1, x, none⟩ (.int .i32 ((disc : Int) + 1))).setCell ⟨N + 3, x, none⟩ (.int .i32 ((disc : Int) + 1))) (upd idx x (disc + 1)) (upd low x (disc + 1)) onS (disc + 1) sv cv) :=
    ((h.setD (disc + 1)).setIdx x (disc + 1)).setLow x (disc + 1)
  have SO3 : Hid ((((w.setCell ⟨N + 9, 0, none⟩ (.int .i32 ((disc : Int) + 1))).setCell ⟨N + 1, x, none⟩ (.int .i32 ((disc : Int) + 1))).setCell ⟨N + 3, x, none⟩ (.int .i32 ((disc : Int) + 1))).ownsRow (N + 10) 21 1 sv ns S) :=
    ownsRow_setCell_below (ownsRow_setCell_below (ownsRow_setCell_below so (by show N + 9 < N + 10; omega) _) (by show N + 1 < N + 10; omega) _) (by show N + 3 < N + 10; omega) _
  have CO3 : Hid ((((w.setCell ⟨N + 9, 0, none⟩ (.int .i32 ((disc : Int) + 1))).setCell ⟨N + 1, x, none⟩ (.int .i32 ((disc : Int) + 1))).setCell ⟨N + 3, x, none⟩ (.int .i32 ((disc : Int) + 1))).ownsRow (N + 10) 81 2 cv nc C) :=
    ownsRow_setCell_below (ownsRow_setCell_below (ownsRow_setCell_below co (by show N + 9 < N + 10; omega) _) (by show N + 1 < N + 10; omega) _) (by show N + 3 < N + 10; omega) _
  have HSZ : Hid ((((w.setCell ⟨N + 9, 0, none⟩ (.int .i32 ((disc : Int) + 1))).setCell ⟨N + 1, x, none⟩ (.int .i32 ((disc : Int) + 1))).setCell ⟨N + 3, x, none⟩ (.int .i32 ((disc : Int) + 1))).heap.size = w.heap.size) := by
    show _ = _; rw [size_set, size_set, size_set]
  have hsz := h.sz
  clear h so co hi hz hi2 hz2 H SO CO
  go_enter Try.func35, Try.ntmps35
  go_wp2_with fail
  go_region
  all_goals (go_wp2_with (at_builtin; refine wpList_append_own _ rfl _ _ 23 rfl (N + 10) 21 i21 (.int .i32 0) 1 4 Try.underlying23 HI.out.1 HI.out.2.1 HI.out.2.2.1 HI.out.2.2.2 rfl (by decide) sv ns S rfl ?c0 ⟨w.heap.size, 0, none⟩ 1 1 [.int .i32 (x : Int)] ?cx rfl ?c1 ?c2 ?c3 ?c4 ?c5 ?c6))
  case c0 => exact (SO3.out.alloc _).drew
  case cx => rfl
  case c1 =>
    have hc := cell_one_new (((w.setCell ⟨N + 9, 0, none⟩ (.int .i32 ((disc : Int) + 1))).setCell ⟨N + 1, x, none⟩ (.int .i32 ((disc : Int) + 1))).setCell ⟨N + 3, x, none⟩ (.int .i32 ((disc : Int) + 1))) (.int .i32 (x : Int)) 21
    rw [HSZ.out] at hc; exact hc
  case c2 => intro u hu; simp at hu; subst hu; rfl
  case c3 => unfold maxLen; omega
  case c4 => omega
  case c5 =>
    show N + 10 ≤ (World.alloc _ _).heap.size
    simp only [World.alloc, Array.size_push, HSZ.out]; omega
  case c6 =>
    intro v' w1 hown' hgrow _
    obtain ⟨sg, scap, rfl, _⟩ := hown'.form (Nat.succ_pos _)
    have CO1 : w1.ownsRow (N + 10) 81 2 cv nc C := (CO3.out.alloc _).drew.kept hgrow (own_apart CO3.out SO3.out (by decide))
    have H1 := ((H3.out.alloc (.cells #[.int .i32 (x : Int)] 21)).drew.grown hgrow (own_base SO3.out))
    clear H3 SO3 CO3 HSZ hgrow c1 c2 c3 c4 c5 c6 f1 f2 f3 hsz
    have g1 := H1.fz 7 0 (by omega)
    have g2 := H1.cOv
    have g3 := H1.cO hx
    have g4 := H1.fz 5 x (by omega)
    have g5 := H1.cC
    have g6 := H1.cS
    have g7 := H1.fz 8 0 (by omega)
    have hsz := H1.sz
    have H2 : Hid (MemR M N sa va w0 ((w1.setCell ⟨N + 7, 0, none⟩ (.slice (some ⟨sg, 0, none⟩) (ns + 1) scap)).setCell ⟨N + 5, x, none⟩ (.bool true)) (upd idx x (disc + 1)) (upd low x (disc + 1)) (upd onS x true) (disc + 1) (.slice (some ⟨sg, 0, none⟩) (ns + 1) scap) cv) := (H1.setS _).setOn x true
    have SO2 : Hid (((w1.setCell ⟨N + 7, 0, none⟩ (.slice (some ⟨sg, 0, none⟩) (ns + 1) scap)).setCell ⟨N + 5, x, none⟩ (.bool true)).ownsRow (N + 10) 21 1 (.slice (some ⟨sg, 0, none⟩) (ns + 1) scap) (ns + 1) (S ++ [.int .i32 (x : Int)])) :=
      ownsRow_setCell_below (ownsRow_setCell_below hown' (by show N + 7 < N + 10; omega) _) (by show N + 5 < N + 10; omega) _
    have CO2 : Hid (((w1.setCell ⟨N + 7, 0, none⟩ (.slice (some ⟨sg, 0, none⟩) (ns + 1) scap)).setCell ⟨N + 5, x, none⟩ (.bool true)).ownsRow (N + 10) 81 2 cv nc C) :=
      ownsRow_setCell_below (ownsRow_setCell_below CO1 (by show N + 7 < N + 10; omega) _) (by show N + 5 < N + 10; omega) _
    have HSZ : Hid (((w1.setCell ⟨N + 7, 0, none⟩ (.slice (some ⟨sg, 0, none⟩) (ns + 1) scap)).setCell ⟨N + 5, x, none⟩ (.bool true)).heap.size = w1.heap.size) := by show _ = _; rw [size_set, size_set]
    clear H1 hown' CO1
    go_wp2_with (at_builtin; refine wpList_append_own _ rfl _ _ 79 rfl (N + 10) 81 i81 (.agg #[.int .i32 0, .int .i64 0]) 2 16 Try.underlying79 HI2.out.1 HI2.out.2.1 HI2.out.2.2.1 HI2.out.2.2.2 rfl (by decide) cv nc C rfl ?d0 ⟨w1.heap.size, 0, none⟩ 1 1 [.int .i32 (x : Int), .int .i64 0] ?dx rfl ?d1 ?d2 ?d3 ?d4 ?d5 ?d6)
    case d0 => exact CO2.out.alloc _
    case dx => rfl
    case d1 =>
      intro j u hj
      have hr := World.rowIs_alloc ((w1.setCell ⟨N + 7, 0, none⟩ (.slice (some ⟨sg, 0, none⟩) (ns + 1) scap)).setCell ⟨N + 5, x, none⟩ (.bool true)) #[.int .i32 (x : Int), .int .i64 0] 81 (fun j => [Value.int .i32 (x : Int), .int .i64 0].getD j undef) (fun i hi => by
        match i, hi with
        | 0, _ => rfl
        | 1, _ => rfl)
      rw [HSZ.out] at hr
      match j, hj with
      | 0, hj => simp at hj; subst hj; exact hr.cell (i := 0) (by simp)
      | 1, hj => simp at hj; subst hj; exact hr.cell (i := 1) (by simp)
    case d2 => intro u hu; simp at hu; rcases hu with rfl | rfl <;> rfl
    case d3 => unfold maxLen; omega
    case d4 => omega
    case d5 => simp only [World.alloc, Array.size_push, HSZ.out]; omega
    case d6 =>
      intro v2 w2 hown2 hgrow2 _
      obtain ⟨cg, ccap, rfl, _⟩ := hown2.form (Nat.succ_pos _)
      have SO4 := (SO2.out.alloc (.cells #[.int .i32 (x : Int), .int .i64 0] 81)).kept hgrow2 (own_apart SO2.out CO2.out (by decide))
      have H4 := (H2.out.alloc (.cells #[.int .i32 (x : Int), .int .i64 0] 81)).grown hgrow2 (own_base CO2.out)
      clear H2 SO2 CO2 HSZ hgrow2 g1 g2 g3 g4 g5 g6 g7
      have k1 := H4.cC
      have k2 := H4.fz 8 0 (by omega)
      have HZ : Hid (∃ sv' cv', MemR M N sa va w0 (w2.setCell ⟨N + 8, 0, none⟩ (.slice (some ⟨cg, 0, none⟩) (nc + 1) ccap)) (upd idx x (disc + 1)) (upd low x (disc + 1)) (upd onS x true) (disc + 1) sv' cv' ∧ (w2.setCell ⟨N + 8, 0, none⟩ (.slice (some ⟨cg, 0, none⟩) (nc + 1) ccap)).ownsRow (N + 10) 21 1 sv' (ns + 1) (S ++ [.int .i32 x]) ∧ (w2.setCell ⟨N + 8, 0, none⟩ (.slice (some ⟨cg, 0, none⟩) (nc + 1) ccap)).ownsRow (N + 10) 81 2 cv' (nc + 1) (C ++ [.int .i32 x, .int .i64 0])) :=
        ⟨_, _, H4.setC _, ownsRow_setCell_below SO4 (by show N + 8 < N + 10; omega) _, ownsRow_setCell_below hown2 (by show N + 8 < N + 10; omega) _⟩
      clear H4 SO4 hown2
      go_wp2_with fail
      go_end0
      exact ⟨rfl, HZ.out⟩
end Go.Proofs.Qxb6603909a
