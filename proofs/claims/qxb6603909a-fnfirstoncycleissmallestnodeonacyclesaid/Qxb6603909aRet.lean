/- returnsTo and smallestOnCycle, walked. -/
import Derived.Test.Qxb6603909aGraph
import Derived.OwnWalk
import Derived.Maps.AppendAt
import Derived.Deep.AppendLies
import Derived.Laws.OwnMore
namespace Go.Proofs.Qxb6603909a
open Go.RowKit
set_option linter.unusedVariables false

theorem Try.info4 : (Try.prog.info? 4).map (fun i => (i.zero, i.size, i.bytes)) = some (some (.bool false), 1, 1) := by kernel_rfl

/-- What the search keeps: the queue Q, each of it seen, each of it reached. -/
structure Seen (n N0 : Nat) (adj : Nat → List Nat) (n0 : Nat) (w wr : World) (q : Value) (Q : List Nat) : Prop where
  nd : Q.Nodup
  mem : ∀ v, v ∈ Q → v + 1 < n ∧ ∃ m, m ∈ adj n0 ∧ R adj m v
  row : wr.rowIs N0 4 (n - 1) (fun j => .bool (decide (j ∈ Q)))
  own : wr.ownsRow (N0 + 1) 3 1 q Q.length (Q.map fun v : Nat => Value.int .i64 (v : Int))
  bel : Below N0 w wr
  sz : N0 + 1 ≤ wr.heap.size
theorem own_form {w : World} {base : Nat} {e : TypeId} {size : Nat} {v : Value} {n : Nat} {xs : List Value} (h : w.ownsRow base e size v n xs) : ∃ a c, v = .slice a n c := by
  rcases h.2 with ⟨h1, rfl⟩ | ⟨g, cap, cur, h1, _⟩
  · exact ⟨none, 0, h1⟩
  · exact ⟨_, cap, h1⟩
theorem Seen.len {n N0 n0 : Nat} {adj : Nat → List Nat} {w wr : World} {q : Value} {Q : List Nat} (h : Seen n N0 adj n0 w wr q Q) (hn : 1 ≤ n) : Q.length ≤ n - 1 :=
  nodup_le (n - 1) Q h.nd (fun x hx => by have := (h.mem x hx).1; omega)

theorem Seen.add {n N0 n0 : Nat} {adj : Nat → List Nat} {w wr : World} {q : Value} {Q : List Nat} (h : Seen n N0 adj n0 w wr q Q) {v : Nat} (hv : v ∉ Q) (hvn : v + 1 < n) (hr : ∃ m, m ∈ adj n0 ∧ R adj m v)
    (o : Obj) {v' : Value} {w1 : World} (hown : w1.ownsRow (N0 + 1) 3 1 v' (Q.length + 1) (Q.map (fun v : Nat => Value.int .i64 (v : Int)) ++ [.int .i64 (v : Int)]))
    (hg : ((wr.setCell ⟨N0, v, none⟩ (.bool true)).alloc o).grownBy w1 q.ownBlock) : Seen n N0 adj n0 w w1 v' (Q ++ [v]) := by
  have hsz : (wr.setCell ⟨N0, v, none⟩ (.bool true)).heap.size = wr.heap.size := by simp [World.setCell]
  have hrow := ((h.row.set v (.bool true)).alloc o).of_block (w' := w1) (hg.block N0 (by simp only [World.alloc, Array.size_push, hsz]; have := h.sz; omega) (fun e => by have := h.own.lt N0 e.symm; omega))
  refine ⟨?_, ?_, hrow.congr fun j hj => ?_, by simpa using hown, ?_, ?_⟩
  · rw [List.nodup_append]
    refine ⟨h.nd, by simp, fun a ha b hb e => ?_⟩
    rw [List.mem_singleton] at hb; subst hb; subst e; exact hv ha
  · intro z hz
    rcases List.mem_append.1 hz with hz | hz
    · exact h.mem z hz
    · rw [List.mem_singleton] at hz; subst hz; exact ⟨hvn, hr⟩
  · by_cases e : j = v
    · subst e; simp
    · simp [e]
  · refine ((h.bel.setCell (Nat.le_refl _) _).alloc (by rw [hsz]; have := h.sz; omega) o).grown hg ?_ (fun k hk => by have := (h.own.lt k hk).1; omega)
    simp only [World.alloc, Array.size_push, hsz]; have := h.sz; omega
  · have := hg.size; simp only [World.alloc, Array.size_push, hsz] at this; have := h.sz; omega

def RetB (adj : Nat → List Nat) (n0 : Nat) (e : Ending) : Prop := ∃ b, e = .returned (.bool b) ∧ (b = true ↔ Cyc adj n0)
/-- The loop over the nodes' own arcs. -/
def L1 (n N0 : Nat) (s v : Nat → Nat) (n0 : Nat) (w : World) (q i : Value) (wr : World) : Prop :=
  ∃ (j : Nat) (Q : List Nat), s n0 ≤ j ∧ j ≤ s (n0 + 1) ∧ i = .int .i64 j ∧ Seen n N0 (adjOf n s v) n0 w wr q Q ∧ ∀ j', s n0 ≤ j' → j' < j → v j' ∈ Q
/-- The loop over the queue. -/
def L2 (n N0 : Nat) (s v : Nat → Nat) (n0 : Nat) (w : World) (q i : Value) (wr : World) : Prop :=
  ∃ (h : Nat) (Q : List Nat), h ≤ Q.length ∧ i = .int .i64 h ∧ Seen n N0 (adjOf n s v) n0 w wr q Q ∧ (∀ z, z ∈ adjOf n s v n0 → z ∈ Q) ∧ ∀ k z, k < h → Q[k]? = some z → z ≠ n0 ∧ ∀ y, y ∈ adjOf n s v z → y ∈ Q
/-- The loop over the arcs of one node x of the queue Q0. -/
def L3 (n N0 : Nat) (s v : Nat → Nat) (n0 x : Nat) (Q0 : List Nat) (w : World) (q i : Value) (wr : World) : Prop :=
  ∃ (j : Nat) (T : List Nat), s x ≤ j ∧ j ≤ s (x + 1) ∧ i = .int .i64 j ∧ Seen n N0 (adjOf n s v) n0 w wr q (Q0 ++ T) ∧ ∀ j', s x ≤ j' → j' < j → v j' ∈ Q0 ++ T

set_option maxHeartbeats 1000000 in
theorem returnsTo (bs bv n m cn cv : Nat) (av : Option Addr) (s v : Nat → Nat) (n0 : Nat) (w : World) (hG : Gr n m s v) (hW : GW n m bs bv av s v w) (h0 : n0 + 1 < n) :
    Calls Try.prog 28 #[.slice (some ⟨bs, 0, none⟩) n cn, .slice av m cv, .int .i64 n0] w fun e w' => RetB (adjOf n s v) n0 e ∧ Below w.heap.size w w' := by
  have hnle := hG.nle
  have hmle := hG.mle
  have hmk := run_make_row' (P := Try.prog) 37 4 (.bool false) 1 Try.underlying37 Try.info4 rfl .i64 .i64 (n - 1) (by omega) (by omega)
  have hcast : ((n - 1 : Nat) : Int) = (n : Int) - 1 := by omega
  rw [hcast] at hmk
  obtain ⟨i3, hi, hz⟩ := Option.map_eq_some_iff.1 Try.info3
  have HI : Hid (Try.prog.info? 3 = some i3 ∧ i3.zero = some (.int .i64 0) ∧ i3.size = 1 ∧ i3.bytes = 8) := by simp only [Prod.mk.injEq] at hz; exact ⟨hi, hz⟩
  clear hi hz hcast
  have c0 := (hW.cs n0 h0).1
  have HG : Hid (Gr n m s v) := hG
  have HW : Hid (GW n m bs bv av s v w) := hW
  have hm0 := hG.mono n0 h0
  clear hG hW
  go_enter Try.func28, Try.ntmps28
  go_wp2_with (at_make; refine wpList_make_own _ rfl _ _ 22 rfl (w.heap.size + 1) 3 i3 (.int .i64 0) 1 Try.underlying22 HI.out.1 HI.out.2.1 HI.out.2.2.1 .i64 .i64 _ (n - 1) rfl rfl ?a1 ?a2 ?a3 ?a4 ?a5)
  case a1 => omega
  case a2 => rw [HI.out.2.2.2]; omega
  case a3 => unfold maxLen; omega
  case a4 => simp only [World.alloc, Array.size_push]; omega
  case a5 =>
    intro w1 hown0 hg0
    have hsz0 : (w.alloc (.cells (madeCells #[.bool false] (n - 1)) 4)).heap.size = w.heap.size + 1 := by simp only [World.alloc, Array.size_push]
    have hb1 : Below w.heap.size w w1 := ((Below.refl _ _).alloc (Nat.le_refl _) _).grown hg0 (by omega) (fun k hk => by cases hk)
    have HS0 : Hid (Seen n w.heap.size (adjOf n s v) n0 w w1 (.slice (some ⟨w.heap.size + 1, 0, none⟩) 0 (n - 1)) []) := by
      refine Seen.mk List.nodup_nil (fun z hz => nomatch hz) ?_ hown0 hb1 (by have := hg0.size; omega)
      exact ((World.rowIs_made w (.bool false) (n - 1) 4).of_block (hg0.block _ (by omega) (by simp))).congr fun j hj => by simp
    have c1 := ((HW.out.below hb1 (Nat.le_refl _)).cs n0 h0).1
    clear hown0 hg0 hb1 c0 hmk hsz0
    go_wp2_with fail
    go_loopw [9, 10] (fun q i wr => L1 n w.heap.size s v n0 w q i wr) (fun _ i _ => s (n0 + 1) - (intOf i).toNat)
    case atStart => exact ⟨s n0, [], Nat.le_refl _, hm0.1, rfl, HS0.out, fun j' a b => by omega⟩
    case round =>
      clear HS0 c1
      obtain ⟨j, Q, hj1, hj2, rfl, hS, hall⟩ := hrel
      have HS := (show Hid _ from hS)
      have HALL : Hid (∀ j', s n0 ≤ j' → j' < j → v j' ∈ Q) := hall
      have gw := HW.out.below hS.bel (Nat.le_refl _)
      have c1 := (gw.cs n0 h0).2
      have hlen := hS.len HG.out.n1
      have hszr := hS.sz
      clear hS hall
      by_cases hjl : j < s (n0 + 1)
      · have hji : (j : Int) < ((s (n0 + 1) : Nat) : Int) := by omega
        have hjm : (j : Int) < (m : Int) := by omega
        have c2 := gw.cv n0 j h0 hj1 hjl
        have hav := gw.hav (by omega)
        subst hav
        have hvj := HG.out.arc n0 j h0 hj1 hjl
        have hadj := (show Hid _ from adj_at h0 hj1 hjl : Hid (v j ∈ adjOf n s v n0))
        obtain ⟨x, hx⟩ : ∃ x, v j = x := ⟨_, rfl⟩
        rw [hx] at c2 hvj hadj
        have HX : Hid (v j = x) := hx
        clear hx gw
        have hxn : (x : Int) < (n : Int) - 1 := by omega
        have c3 := HS.out.row.cell (i := x) (by omega)
        have f3 := HS.out.row.frozen x
        by_cases hq : x ∈ Q
        · rw [decide_eq_true hq] at c3
          have HA2 : Hid (∀ j', s n0 ≤ j' → j' < j + 1 → v j' ∈ Q) := fun j' a b => by
            by_cases e : j' = j
            · subst e; rw [HX.out]; exact hq
            · exact HALL.out j' a (by omega)
          clear HALL
          go_wp2_with fail
          exact ⟨⟨j + 1, Q, by omega, by omega, by go_num, HS.out, HA2.out⟩, by simp [intOf]; omega⟩
        · rw [decide_eq_false hq] at c3
          have HA2 : Hid (∀ j', s n0 ≤ j' → j' < j + 1 → v j' ∈ Q ++ [x]) := fun j' a b => by
            by_cases e : j' = j
            · subst e; rw [HX.out]; simp
            · exact List.mem_append_left _ (HALL.out j' a (by omega))
          clear HALL
          have HSZ : Hid ((wr.setCell ⟨w.heap.size, x, none⟩ (.bool true)).heap.size = wr.heap.size) := by show _ = _; simp [World.setCell]
          go_wp2_with (at_builtin; refine wpList_append_own _ rfl _ _ 22 rfl (w.heap.size + 1) 3 i3 (.int .i64 0) 1 8 Try.underlying22 HI.out.1 HI.out.2.1 HI.out.2.2.1 HI.out.2.2.2 rfl (by decide) _ _ _ rfl ((ownsRow_setCell_below HS.out.own (Nat.lt_succ_self _) (.bool true)).alloc _) ⟨wr.heap.size, 0, none⟩ 1 1 [.int .i64 (x : Int)] rfl rfl ?c1 ?c2 ?c3 ?c4 ?c5 ?c6)
          case c1 => have hc := cell_one_new (wr.setCell ⟨w.heap.size, x, none⟩ (.bool true)) (.int .i64 (x : Int)) 3; rw [HSZ.out] at hc; exact hc
          case c2 => intro u hu; simp at hu; subst hu; rfl
          case c3 => unfold maxLen; omega
          case c4 => omega
          case c5 => simp only [World.alloc, Array.size_push, HSZ.out]; omega
          case c6 =>
            intro v' w1 hown' hgrow _
            have HS2 := (show Hid _ from HS.out.add hq hvj.1 ⟨x, hadj.out, R.refl _ _⟩ _ hown' hgrow)
            clear hown' hgrow HS
            go_wp2_with fail
            exact ⟨⟨j + 1, Q ++ [x], by omega, by omega, by go_num, HS2.out, HA2.out⟩, by simp [intOf]; omega⟩
      · have hji : ¬ (j : Int) < ((s (n0 + 1) : Nat) : Int) := by omega
        have HA2 : Hid (∀ z, z ∈ adjOf n s v n0 → z ∈ Q) := fun z hz => by
          obtain ⟨_, j', a, b, rfl⟩ := adj_of hz
          exact HALL.out j' a (by omega)
        clear HALL gw
        go_wp2_with fail
        go_loopw [9, 12] (fun q i wr => L2 n w.heap.size s v n0 w q i wr) (fun _ i _ => n - (intOf i).toNat)
        case atStart => exact ⟨0, Q, Nat.zero_le _, rfl, HS.out, HA2.out, fun k z hk _ => by omega⟩
        case round =>
          clear HA2 HS hji hj1 hj2 hlen hjl hszr c1
          obtain ⟨h, Q, hh, rfl, hS, hall, hdone⟩ := hrel
          have HS := (show Hid _ from hS)
          have HALL : Hid (∀ z, z ∈ adjOf n s v n0 → z ∈ Q) := hall
          have HD : Hid (∀ k z, k < h → Q[k]? = some z → z ≠ n0 ∧ ∀ y, y ∈ adjOf n s v z → y ∈ Q) := hdone
          have hlen := hS.len HG.out.n1
          have hszr := hS.sz
          clear hS hall hdone
          by_cases hlt : h < Q.length
          · obtain ⟨x, hx⟩ : ∃ x, Q[h]? = some x := ⟨_, List.getElem?_eq_getElem hlt⟩
            have hxm := List.mem_of_getElem? hx
            have hxn := (HS.out.mem x hxm).1
            obtain ⟨g, cap, hq, _⟩ := HS.out.own.form (by omega)
            subst hq
            have c1 := HS.out.own.cellAt h (by omega)
            rw [List.getElem?_map, hx] at c1
            have c1' : wr.cell? ⟨g, h, none⟩ = some (.int .i64 (x : Int)) := c1
            have hlti : (h : Int) < (Q.length : Int) := by omega
            have HX : Hid (Q[h]? = some x) := hx
            clear c1 hx
            by_cases e : x = n0
            · have he : ((x : Int) == (n0 : Int)) = true := by rw [beq_iff_eq]; omega
              have HR : Hid (RetB (adjOf n s v) n0 (.returned (.bool true))) := ⟨true, rfl, fun _ => by obtain ⟨_, y, hy, hR⟩ := HS.out.mem x hxm; rw [e] at hR; exact ⟨y, hy, hR⟩, fun _ => rfl⟩
              have HB : Hid (Below w.heap.size w wr) := HS.out.bel
              clear HS HALL HD e hxm
              go_wp2_with fail
              go_ret
              exact ⟨HR.out, HB.out⟩
            · have he : ((x : Int) == (n0 : Int)) = false := by rw [beq_eq_false_iff_ne]; omega
              have c2 := ((HW.out.below HS.out.bel (Nat.le_refl _)).cs x hxn).1
              have hmx := HG.out.mono x hxn
              have HE : Hid (x ≠ n0) := e
              clear e
              go_wp2_with fail
              go_loopw [9, 14] (fun q i wr => L3 n w.heap.size s v n0 x Q w q i wr) (fun _ i _ => s (x + 1) - (intOf i).toNat)
              case atStart => exact ⟨s x, [], Nat.le_refl _, hmx.1, rfl, by rw [List.append_nil]; exact HS.out, fun j' a b => by omega⟩
              case round =>
                obtain ⟨y0, hy0, hR0⟩ := (HS.out.mem x hxm).2
                have HR0 : Hid (R (adjOf n s v) y0 x) := hR0
                have HY0 : Hid (y0 ∈ adjOf n s v n0) := hy0
                clear HS c1' c2 he hR0 hy0
                obtain ⟨j, T, hj1, hj2, rfl, hS, hall⟩ := hrel
                have HS := (show Hid _ from hS)
                have HAL3 : Hid (∀ j', s x ≤ j' → j' < j → v j' ∈ Q ++ T) := hall
                have gw := HW.out.below hS.bel (Nat.le_refl _)
                have c1 := (gw.cs x hxn).2
                have hlen := hS.len HG.out.n1
                have hszr := hS.sz
                clear hS hall
                by_cases hjl : j < s (x + 1)
                · have hji : (j : Int) < ((s (x + 1) : Nat) : Int) := by omega
                  have hjm : (j : Int) < (m : Int) := by omega
                  have c2 := gw.cv x j hxn hj1 hjl
                  have hav := gw.hav (by omega)
                  subst hav
                  have hvj := HG.out.arc x j hxn hj1 hjl
                  have hadj := (show Hid _ from adj_at hxn hj1 hjl : Hid (v j ∈ adjOf n s v x))
                  obtain ⟨y, hy⟩ : ∃ y, v j = y := ⟨_, rfl⟩
                  rw [hy] at c2 hvj hadj
                  have HY : Hid (v j = y) := hy
                  clear hy gw
                  have hyn : (y : Int) < (n : Int) - 1 := by omega
                  have c3 := HS.out.row.cell (i := y) (by omega)
                  have f3 := HS.out.row.frozen y
                  by_cases hq : y ∈ Q ++ T
                  · rw [decide_eq_true hq] at c3
                    have HA2 : Hid (∀ j', s x ≤ j' → j' < j + 1 → v j' ∈ Q ++ T) := fun j' a b => by
                      by_cases e : j' = j
                      · subst e; rw [HY.out]; exact hq
                      · exact HAL3.out j' a (by omega)
                    clear HAL3 hq hxm
                    go_wp2_with fail
                    exact ⟨⟨j + 1, T, by omega, by omega, by go_num, HS.out, HA2.out⟩, by simp [intOf]; omega⟩
                  · rw [decide_eq_false hq] at c3
                    have HA2 : Hid (∀ j', s x ≤ j' → j' < j + 1 → v j' ∈ Q ++ (T ++ [y])) := fun j' a b => by
                      rw [← List.append_assoc]
                      by_cases e : j' = j
                      · subst e; rw [HY.out]; simp
                      · exact List.mem_append_left _ (HAL3.out j' a (by omega))
                    have HQ : Hid (y ∉ Q ++ T) := hq
                    clear HAL3 hq hxm
                    have HSZ : Hid ((wr.setCell ⟨w.heap.size, y, none⟩ (.bool true)).heap.size = wr.heap.size) := by show _ = _; simp [World.setCell]
                    go_wp2_with (at_builtin; refine wpList_append_own _ rfl _ _ 22 rfl (w.heap.size + 1) 3 i3 (.int .i64 0) 1 8 Try.underlying22 HI.out.1 HI.out.2.1 HI.out.2.2.1 HI.out.2.2.2 rfl (by decide) _ _ _ rfl ((ownsRow_setCell_below HS.out.own (Nat.lt_succ_self _) (.bool true)).alloc _) ⟨wr.heap.size, 0, none⟩ 1 1 [.int .i64 (y : Int)] rfl rfl ?c1 ?c2 ?c3 ?c4 ?c5 ?c6)
                    case c1 => have hc := cell_one_new (wr.setCell ⟨w.heap.size, y, none⟩ (.bool true)) (.int .i64 (y : Int)) 3; rw [HSZ.out] at hc; exact hc
                    case c2 => intro u hu; simp at hu; subst hu; rfl
                    case c3 => unfold maxLen; omega
                    case c4 => omega
                    case c5 => simp only [World.alloc, Array.size_push, HSZ.out]; omega
                    case c6 =>
                      intro v' w1 hown' hgrow _
                      have HS2 := (show Hid _ from HS.out.add HQ.out hvj.1 ⟨y0, HY0.out, HR0.out.trans (R.step hadj.out)⟩ _ (by rw [List.length_append, List.map_append, List.append_assoc]; exact hown') hgrow)
                      clear hown' hgrow HS
                      go_wp2_with fail
                      exact ⟨⟨j + 1, T ++ [y], by omega, by omega, by go_num, by rw [← List.append_assoc]; exact HS2.out, HA2.out⟩, by simp [intOf]; omega⟩
                · have hji : ¬ (j : Int) < ((s (x + 1) : Nat) : Int) := by omega
                  have HD2 : Hid (∀ k z, k < h + 1 → (Q ++ T)[k]? = some z → z ≠ n0 ∧ ∀ y, y ∈ adjOf n s v z → y ∈ Q ++ T) := fun k z hk hz => by
                    rw [List.getElem?_append_left (by omega)] at hz
                    by_cases e : k = h
                    · subst e
                      rw [HX.out] at hz
                      obtain rfl := Option.some.inj hz
                      refine ⟨HE.out, fun y hy => ?_⟩
                      obtain ⟨_, j', a, b, rfl⟩ := adj_of hy
                      exact HAL3.out j' a (by omega)
                    · have := HD.out k z (by omega) hz
                      exact ⟨this.1, fun y hy => List.mem_append_left _ (this.2 y hy)⟩
                  have HA2 : Hid (∀ z, z ∈ adjOf n s v n0 → z ∈ Q ++ T) := fun z hz => List.mem_append_left _ (HALL.out z hz)
                  have hQT : h + 1 ≤ (Q ++ T).length := by rw [List.length_append]; omega
                  clear HALL HD HAL3 gw hxm
                  go_wp2_with fail
                  exact ⟨⟨h + 1, Q ++ T, hQT, by go_num, HS.out, HA2.out, HD2.out⟩, by simp [intOf]; omega⟩
          · have hlti : ¬ (h : Int) < (Q.length : Int) := by omega
            have HR : Hid (RetB (adjOf n s v) n0 (.returned (.bool false))) := by
              refine ⟨false, rfl, fun h => (by cases h), ?_⟩
              rintro ⟨y, hy, hR⟩
              have hmem : n0 ∈ Q := hR (· ∈ Q) (HALL.out y hy) (fun a b ha hb => by
                obtain ⟨k, hk, hk2⟩ := List.getElem_of_mem ha
                exact (HD.out k a (by omega) (by rw [List.getElem?_eq_getElem hk, hk2])).2 b hb)
              obtain ⟨k, hk, hk2⟩ := List.getElem_of_mem hmem
              exact absurd rfl (HD.out k n0 (by omega) (by rw [List.getElem?_eq_getElem hk, hk2])).1
            have HB : Hid (Below w.heap.size w wr) := HS.out.bel
            obtain ⟨qa, qc, hq⟩ := own_form HS.out.own
            subst hq
            clear HS HALL HD
            go_wp2_with fail
            go_ret
            exact ⟨HR.out, HB.out⟩

def RetI (adj : Nat → List Nat) (N r : Nat) : Prop := r ≤ N ∧ (∀ k, k < r → ¬ Cyc adj k) ∧ (r < N → Cyc adj r)
def RetS (adj : Nat → List Nat) (N : Nat) (e : Ending) : Prop := ∃ r : Nat, e = .returned (.int .i32 r) ∧ RetI adj N r

set_option maxHeartbeats 1000000 in
theorem smallest (bs bv n m cn cv : Nat) (av : Option Addr) (s v : Nat → Nat) (w : World) (hG : Gr n m s v) (hW : GW n m bs bv av s v w) :
    Calls Try.prog 12 #[.slice (some ⟨bs, 0, none⟩) n cn, .slice av m cv] w fun e w' => RetS (adjOf n s v) (n - 1) e ∧ Below w.heap.size w w' := by
  have hnle := hG.nle
  have hn1 := hG.n1
  have HG : Hid (Gr n m s v) := hG
  have HW : Hid (GW n m bs bv av s v w) := hW
  clear hG hW
  go_enter Try.func12, Try.ntmps12
  go_wp2_with fail
  go_loopw [6] (fun i wr => ∃ k : Nat, k + 1 ≤ n ∧ i = .int .i64 k ∧ Below w.heap.size w wr ∧ ∀ k', k' < k → ¬ Cyc (adjOf n s v) k') (fun i _ => n - (intOf i).toNat)
  case atStart => exact ⟨0, by omega, rfl, Below.refl _ _, fun k' h => by omega⟩
  case round =>
    obtain ⟨k, hk, rfl, hb, hall⟩ := hrel
    have HB : Hid (Below w.heap.size w wr) := hb
    have HALL : Hid (∀ k', k' < k → ¬ Cyc (adjOf n s v) k') := hall
    clear hb hall
    by_cases hlt : k + 1 < n
    · have hki : (k : Int) < (n : Int) - 1 := by omega
      go_wp2_with fail
      refine (returnsTo bs bv n m cn cv av s v k wr HG.out (HW.out.below HB.out (Nat.le_refl _)) hlt).mono ?_
      rintro e w1 ⟨⟨b, rfl, hb⟩, hbel⟩
      have HB2 : Hid (Below w.heap.size w w1) := HB.out.trans (hbel.mono HB.out.size)
      cases b with
      | true =>
        have HR : Hid (RetS (adjOf n s v) (n - 1) (.returned (.int .i32 (k : Int)))) := ⟨k, rfl, by omega, HALL.out, fun _ => hb.1 rfl⟩
        clear HALL HB hb hbel
        go_wp2_with fail
        go_ret
        exact ⟨HR.out, HB2.out⟩
      | false =>
        have HA2 : Hid (∀ k', k' < k + 1 → ¬ Cyc (adjOf n s v) k') := fun k' hk' hc => by
          by_cases e : k' = k
          · subst e; have := hb.2 hc; cases this
          · exact HALL.out k' (by omega) hc
        clear HALL HB hb hbel
        go_wp2_with fail
        exact ⟨⟨k + 1, by omega, by go_num, HB2.out, HA2.out⟩, by simp [intOf]; omega⟩
    · have hki : ¬ (k : Int) < (n : Int) - 1 := by omega
      have HR : Hid (RetS (adjOf n s v) (n - 1) (.returned (.int .i32 ((n : Int) - 1)))) := ⟨n - 1, by congr 2; omega, by omega, fun k' h => HALL.out k' (by omega), fun h => by omega⟩
      clear HALL
      go_wp2_with fail
      go_ret
      exact ⟨HR.out, HB.out⟩
end Go.Proofs.Qxb6603909a
