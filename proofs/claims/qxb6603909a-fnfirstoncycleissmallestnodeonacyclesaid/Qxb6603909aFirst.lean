/- firstOnCycle, walked. -/
import Derived.Test.Qxb6603909aFS2
import Derived.Deep.LoopGhost
namespace Go.Proofs.Qxb6603909a
open Go.RowKit
set_option linter.unusedVariables false

def mu (n m : Nat) (s v : Nat → Nat) (σ : St) : Nat := und σ.idx (n - 1) * (m + 1) + (σ.calls.map (fun c => (adjOf n s v c.1).length - c.2 + 1)).sum
theorem deg_le {n m : Nat} {s v : Nat → Nat} (hG : Gr n m s v) (y : Nat) : (adjOf n s v y).length ≤ m := by
  by_cases h : y + 1 < n
  · rw [adj_len h]; have := hG.mono y h; omega
  · unfold adjOf; rw [if_neg h]; exact Nat.zero_le _
theorem mu_visit {n m : Nat} {s v : Nat → Nat} (hG : Gr n m s v) {σ : St} {x a y : Nat} {cs : List (Nat × Nat)} (hc : σ.calls = (x, a) :: cs) (ha : a < (adjOf n s v x).length) (hy : y + 1 < n) (h0 : σ.idx y = 0) :
    mu n m s v (σ.visit y ((x, a + 1) :: cs)) < mu n m s v σ := by
  have h1 := und_upd σ.idx y (σ.disc + 1) (by omega) h0 (n - 1) (by omega)
  have h2 := deg_le hG y
  unfold mu
  rw [hc]
  show und (upd σ.idx y (σ.disc + 1)) (n - 1) * (m + 1) + (((y, 0) :: (x, a + 1) :: cs).map (fun c => (adjOf n s v c.1).length - c.2 + 1)).sum < _
  simp only [List.map_cons, List.sum_cons]
  rw [← h1, Nat.add_mul]
  omega
theorem mu_arc {n m : Nat} {s v : Nat → Nat} {σ : St} {x a : Nat} {cs : List (Nat × Nat)} (hc : σ.calls = (x, a) :: cs) (ha : a < (adjOf n s v x).length) (low' : Nat → Nat) :
    mu n m s v { σ with calls := (x, a + 1) :: cs, low := low' } < mu n m s v σ := by
  unfold mu
  rw [hc]
  simp only [List.map_cons, List.sum_cons]
  omega
theorem mu_end {n m : Nat} {s v : Nat → Nat} {σ τ : St} {x a : Nat} {cs : List (Nat × Nat)} (hc : σ.calls = (x, a) :: cs) (hi : τ.idx = σ.idx) (ht : τ.calls = cs) : mu n m s v τ < mu n m s v σ := by
  unfold mu
  rw [hc, hi, ht]
  simp only [List.map_cons, List.sum_cons]
  omega

theorem FS.top {n N : Nat} {s v : Nat → Nat} {sa va : Value} {w0 wr : World} {σ : St} {sv : Value} {x a cg ccap : Nat} {cs : List (Nat × Nat)} (h : FS n N s v sa va w0 wr σ sv (.slice (some ⟨cg, 0, none⟩) (cs.length + 1) ccap)) (hc : σ.calls = (x, a) :: cs) :
    wr.cell? ⟨cg, cs.length * 2, none⟩ = some (.int .i32 (x : Int)) ∧ wr.cell? ⟨cg, cs.length * 2 + 1, none⟩ = some (.int .i64 (a : Int)) ∧ wr.frozen? ⟨cg, cs.length * 2 + 1, none⟩ = false ∧ N + 10 ≤ cg := by
  have hco := h.co
  rw [hc] at hco
  have e1 := hco.cellAt (cs.length * 2) (by omega)
  have e2 := hco.cellAt (cs.length * 2 + 1) (by omega)
  have hccl := callC_len cs
  rw [show callC ((x, a) :: cs) = callC cs ++ [Value.int .i32 (x : Int), .int .i64 (a : Int)] from rfl, List.getElem?_append_right (by omega)] at e1 e2
  rw [show cs.length * 2 - (callC cs).length = 0 by omega] at e1
  rw [show cs.length * 2 + 1 - (callC cs).length = 1 by omega] at e2
  exact ⟨e1, e2, hco.frozenAt _, own_base hco cg rfl⟩

theorem FS.drew {n N : Nat} {s v : Nat → Nat} {sa va : Value} {w0 wr : World} {σ : St} {sv cv : Value} (h : FS n N s v sa va w0 wr σ sv cv) : FS n N s v sa va w0 wr.drew σ sv cv := ⟨h.inv, h.mem.drew, h.so.drew, h.co.drew⟩
theorem min_if (a b : Nat) : (if b < a then ((b : Nat) : Int) else ((a : Nat) : Int)) = ((Nat.min a b : Nat) : Int) := by
  split
  · rw [show Nat.min a b = b from Nat.min_eq_right (by omega)]
  · rw [show Nat.min a b = a from Nat.min_eq_left (by omega)]

theorem FS.top2 {n N : Nat} {s v : Nat → Nat} {sa va : Value} {w0 wr : World} {σ : St} {sv : Value} {x a p b cg ccap : Nat} {cs : List (Nat × Nat)} (h : FS n N s v sa va w0 wr σ sv (.slice (some ⟨cg, 0, none⟩) (cs.length + 1 + 1) ccap)) (hc : σ.calls = (x, a) :: (p, b) :: cs) :
    wr.cell? ⟨cg, cs.length * 2, none⟩ = some (.int .i32 (p : Int)) ∧ p + 1 < n ∧ p ≠ x ∧ σ.low p ≤ σ.idx p ∧ σ.idx p < σ.idx x := by
  have hco := h.co
  rw [hc] at hco
  have e1 := hco.cellAt (cs.length * 2) (by omega)
  have hccl := callC_len cs
  rw [show callC ((x, a) :: (p, b) :: cs) = callC cs ++ [Value.int .i32 (p : Int), .int .i64 (b : Int)] ++ [Value.int .i32 (x : Int), .int .i64 (a : Int)] from rfl, List.append_assoc, List.getElem?_append_right (by omega)] at e1
  rw [show cs.length * 2 - (callC cs).length = 0 by omega] at e1
  have hp : (p, b) ∈ σ.calls := by rw [hc]; exact List.mem_cons_of_mem _ List.mem_cons_self
  have hord := h.inv.c_ord
  rw [hc] at hord
  have hlt : σ.idx p < σ.idx x := top_max hord List.mem_cons_self
  have hpn := h.inv.idx_lt p (h.inv.stk_pos p (h.inv.c_stk p b hp))
  exact ⟨e1, by omega, fun e => by subst e; omega, (h.inv.low_s p b hp).1, hlt⟩

theorem own_cap {w : World} {base : Nat} {e : TypeId} {size : Nat} {g n cap : Nat} {xs : List Value} (h : w.ownsRow base e size (.slice (some ⟨g, 0, none⟩) n cap) n xs) : n ≤ cap := by
  rcases h.2 with ⟨h1, _⟩ | ⟨g', cap', cur, h1, _, _, h2, _⟩
  · cases h1
  · cases h1; exact h2

theorem PS.after {n N : Nat} {sa va : Value} {w0 wr : World} {σ : St} {sv cv : Value} {x : Nat} {S : List Nat} {cs : List (Nat × Nat)} {low' : Nat → Nat} {P A1 : List Nat} {on' : Nat → Bool} (h : PS n N sa va w0 wr σ sv cv x S cs low' P A1 on') {w1 : World} (hb : Below wr.heap.size wr w1) : PS n N sa va w0 w1 σ sv cv x S cs low' P A1 on' :=
  ⟨h.mem.after hb, own_after h.so hb, own_after h.co hb, h.hA, h.on⟩
theorem FS.toPS {n N : Nat} {s v : Nat → Nat} {sa va : Value} {w0 wr : World} {σ : St} {sv cv : Value} (h : FS n N s v sa va w0 wr σ sv cv) {x a cg ccap : Nat} {cs : List (Nat × Nat)} (hc : σ.calls = (x, a) :: cs) (hcv : cv = .slice (some ⟨cg, 0, none⟩) (cs.length + 1) ccap) :
    ∃ A S, PS n N sa va w0 (wr.setCell ⟨N + 8, 0, none⟩ (.slice (some ⟨cg, 0, none⟩) cs.length ccap)) σ sv (.slice (some ⟨cg, 0, none⟩) cs.length ccap) x S cs σ.low [] A σ.onS := by
  obtain ⟨m1, m2, m3⟩ := h.popCall hc hcv
  have hx : x ∈ σ.stk := h.inv.c_stk x a (by rw [hc]; exact List.mem_cons_self)
  obtain ⟨A, S, hs⟩ := List.append_of_mem hx
  exact ⟨A, S, m1, by rw [hs] at m2; exact m2, m3, hs, fun z => by simp⟩
theorem PS.setLow {n N : Nat} {sa va : Value} {w0 wr : World} {σ : St} {sv cv : Value} {x : Nat} {S : List Nat} {cs : List (Nat × Nat)} {low' : Nat → Nat} {P A1 : List Nat} {on' : Nat → Bool} (h : PS n N sa va w0 wr σ sv cv x S cs low' P A1 on') (p L : Nat) :
    PS n N sa va w0 (wr.setCell ⟨N + 3, p, none⟩ (.int .i32 (L : Int))) σ sv cv x S cs (upd low' p L) P A1 on' :=
  ⟨h.mem.setLow p L, ownsRow_setCell_below h.so (by show N + 3 < N + 10; omega) _, ownsRow_setCell_below h.co (by show N + 3 < N + 10; omega) _, h.hA, h.on⟩
/-- What the round of popping reads. -/
theorem stk_top {n N : Nat} {sa va : Value} {w0 wr : World} {sv cv : Value} {t : Nat} {T : List Nat} {idx low' : Nat → Nat} {on' : Nat → Bool} {disc : Nat} (hm : MemR (n - 1) N sa va w0 wr idx low' on' disc sv cv)
    (so : wr.ownsRow (N + 10) 21 1 sv (t :: T).length (stkC (t :: T))) : ∃ sg scap, sv = .slice (some ⟨sg, 0, none⟩) (T.length + 1) scap ∧ wr.cell? ⟨sg, T.length, none⟩ = some (.int .i32 (t : Int)) ∧ T.length + 1 ≤ scap ∧ N + 10 ≤ sg := by
  obtain ⟨sg, scap, hsv, _⟩ := so.form (Nat.succ_pos _)
  have hsv' : sv = .slice (some ⟨sg, 0, none⟩) (T.length + 1) scap := hsv
  subst hsv'
  have e := World.ownsRow.cellAt (n := T.length + 1) so T.length (by omega)
  rw [stkC_cons, List.getElem?_append_right (by rw [stkC_len]; omega), show T.length - (stkC T).length = 0 by rw [stkC_len]; omega] at e
  exact ⟨sg, scap, rfl, e, own_cap so, own_base so sg rfl⟩

def LP (n N : Nat) (sa va : Value) (w0 : World) (σ : St) (x : Nat) (S : List Nat) (cs : List (Nat × Nat)) (low' : Nat → Nat) (g : Nat) (sz sm : Value) (wr : World) : Prop :=
  ∃ (P A1 : List Nat) (on' : Nat → Bool) (sv cv : Value) (q : Nat), g = A1.length ∧ sz = .int .i64 (P.length : Int) ∧ sm = .int .i32 (q : Int) ∧ ((q = x ∨ q ∈ P) ∧ q ≤ x ∧ ∀ y, y ∈ P → q ≤ y) ∧ PS n N sa va w0 wr σ sv cv x S cs low' P A1 on'

def LO (n N : Nat) (s v : Nat → Nat) (sa va : Value) (w0 : World) (f c : Value) (wr : World) : Prop :=
  ∃ (k : Nat) (σ : St) (sv cv : Value), k + 1 ≤ n ∧ c = .int .i32 (k : Int) ∧ f = .int .i32 (σ.first : Int) ∧ FS n N s v sa va w0 wr σ sv cv ∧ σ.calls = [] ∧ ∀ z, z < k → σ.idx z ≠ 0
def LI (n m N : Nat) (s v : Nat → Nat) (sa va : Value) (w0 : World) (k : Nat) (g : Nat) (f : Value) (wr : World) : Prop :=
  ∃ (σ : St) (sv cv : Value), g = mu n m s v σ ∧ f = .int .i32 (σ.first : Int) ∧ FS n N s v sa va w0 wr σ sv cv ∧ ∀ z, z < k + 1 → σ.idx z ≠ 0

set_option maxRecDepth 100000 in
set_option maxHeartbeats 16000000 in
theorem first_walk (bs bv n m : Nat) (av : Option Addr) (s v : Nat → Nat) (w : World) (hG : Gr n m s v) (hW : GW n m bs bv av s v w) (hav : (av = none ∧ m = 0) ∨ av = some ⟨bv, 0, none⟩) :
    Calls Try.prog 27 #[.agg #[.slice (some ⟨bs, 0, none⟩) n n, .slice av m m]] w fun e w' => RetS (adjOf n s v) (n - 1) e ∧ Below w.heap.size w w' := by
  have hnle := hG.nle
  have hmle := hG.mle
  have hn1 := hG.n1
  have hcast : ((n - 1 : Nat) : Int) = (n : Int) - 1 := by omega
  have hmk := run_make_row' (P := Try.prog) 37 4 (.bool false) 1 Try.underlying37 Try.info4 rfl .i64 .i64 (n - 1) (by omega) (by omega)
  have hmk2 := run_make_row' (P := Try.prog) 23 21 (.int .i32 0) 4 Try.underlying23 Try.info21 rfl .i64 .i64 (n - 1) (by omega) (by omega)
  rw [hcast] at hmk hmk2
  have HG : Hid (Gr n m s v) := hG
  have HW : Hid (GW n m bs bv av s v w) := hW
  have HAV : Hid ((av = none ∧ m = 0) ∨ av = some ⟨bv, 0, none⟩) := hav
  have HC : Hid (((n - 1 : Nat) : Int) = (n : Int) - 1) := hcast
  clear hG hW hav hcast
  go_enter Try.func27, Try.ntmps27
  go_wp2_with fail
  simp only [Nat.add_assoc, Nat.reduceAdd]
  go_loopw [10, 36] (fun f c wr => LO n w.heap.size s v (.slice (some ⟨bs, 0, none⟩) n n) (.slice av m m) w f c wr) (fun _ c _ => n - (intOf c).toNat)
  case atStart =>
    refine ⟨0, St.start (n - 1), .slice none 0 0, .slice none 0 0, hn1, rfl, ?_, ⟨start_inv _ _, start_mem (n - 1) _ _ w _ _ _ _ _ _ _ _ _ _ rfl rfl rfl rfl rfl rfl rfl rfl rfl rfl, World.ownsRow_nil _ _ _ _, World.ownsRow_nil _ _ _ _⟩, rfl, fun z hz => by omega⟩
    show Value.int .i32 ((n : Int) - 1) = Value.int .i32 ((n - 1 : Nat) : Int)
    rw [HC.out]
  case round =>
    clear hmk hmk2
    obtain ⟨k, σ, sv, cv, hk, rfl, rfl, hF, hcl, hall⟩ := hrel
    have HF := (show Hid _ from hF)
    have HCL : Hid (σ.calls = []) := hcl
    have HALL : Hid (∀ z, z < k → σ.idx z ≠ 0) := hall
    have hfl := hF.inv.f_le
    by_cases hkl : k + 1 < n
    · have hki : (k : Int) < (n : Int) - 1 := by omega
      have c1 := hF.mem.cIv
      have c2 := hF.mem.cI (x := k) (by omega)
      by_cases h0 : σ.idx k = 0
      · rw [h0] at c2
        have H0 : Hid (σ.idx k = 0) := h0
        clear hF hcl hall h0
        go_wp2_with fail
        refine (HF.out.root hnle HCL.out k hkl H0.out).mono ?_
        rintro e w1 ⟨rfl, sv1, cv1, hF1⟩
        have HF1 := (show Hid _ from hF1)
        have HALL1 : Hid (∀ z, z < k + 1 → (σ.visit k []).idx z ≠ 0) := fun z hz => by
          show upd σ.idx k (σ.disc + 1) z ≠ 0
          unfold upd
          by_cases e : z = k
          · rw [if_pos e]; omega
          · rw [if_neg e]; exact HALL.out z (by omega)
        clear hF1 HF HALL HCL H0 c1 c2
        go_wp2_with fail
        go_loopg [10] (mu n m s v (σ.visit k [])) (fun g f wr => LI n m w.heap.size s v (.slice (some ⟨bs, 0, none⟩) n n) (.slice av m m) w k g f wr)
        case atStart => exact ⟨σ.visit k [], sv1, cv1, rfl, rfl, HF1.out, HALL1.out⟩
        case round =>
          clear HF1 HALL1 hfl
          obtain ⟨σ, sv, cv, hgk, rfl, hF, hall⟩ := hrel
          have HF := (show Hid _ from hF)
          have HALL : Hid (∀ z, z < k + 1 → σ.idx z ≠ 0) := hall
          have HGK := (show Hid _ from hgk)
          have hfl := hF.inv.f_le
          have d1 := hF.mem.cC
          clear hall hgk
          rcases hcalls : σ.calls with _ | ⟨⟨x, a⟩, cs⟩
          · obtain ⟨ca, cc, hcv⟩ := own_form hF.co
            rw [hcalls] at hcv
            subst hcv
            have HCL : Hid (σ.calls = []) := hcalls
            clear hF hcalls
            go_wp2_with fail
            exact ⟨⟨k + 1, σ, _, _, by omega, by go_num, rfl, HF.out, HCL.out, HALL.out⟩, by simp [intOf]; omega⟩
          · have HCL : Hid (σ.calls = (x, a) :: cs) := hcalls
            have hclen := hF.inv.calls_len
            have hco := hF.co
            rw [hcalls] at hclen hco
            obtain ⟨cg, ccap, hcv, _⟩ := hco.form (Nat.succ_pos _)
            have hcv' : cv = .slice (some ⟨cg, 0, none⟩) (cs.length + 1) ccap := hcv
            subst hcv'
            have htop : (x, a) ∈ σ.calls := by rw [hcalls]; exact List.mem_cons_self
            have hxn : x + 1 < n := by have := hF.inv.idx_lt x (hF.inv.stk_pos x (hF.inv.c_stk x a htop)); omega
            have hale := hF.inv.c_le x a htop
            rw [adj_len hxn] at hale
            have hmx := HG.out.mono x hxn
            obtain ⟨d2, d3, _, hcg⟩ := hF.top hcalls
            have d4 := hF.mem.cA0
            have d5 := hF.mem.cA1
            clear hco hcalls htop hF hcv
            have hcl4 : cs.length + 1 ≤ 4096 := by simp only [List.length_cons] at hclen; omega
            clear hclen
            go_wp2_with fail
            refine (of_walk bs bv n m av s v x wr HG.out (HW.out.below HF.out.mem.bel (Nat.le_refl _)) HAV.out hxn).mono ?_
            rintro e w1 ⟨⟨oa, oc, rfl, hoa⟩, hb⟩
            have hF := HF.out.after hb
            clear HF hb d1 d2 d3 d4 d5
            have HF := (show Hid _ from hF)
            have d1 := hF.mem.cC
            have df := hF.mem.fz 8 0 (by omega)
            obtain ⟨d2, d3, d4, _⟩ := hF.top HCL.out
            have d5 := hF.mem.cIv
            have d6 := hF.mem.cLv
            have d7 := hF.mem.cL (x := x) (by omega)
            have d8 := hF.mem.fz 3 x (by omega)
            have d9 := hF.mem.cI (x := x) (by omega)
            by_cases hlt : a < s (x + 1) - s x
            · have hai : (a : Int) < ((s (x + 1) - s x : Nat) : Int) := by omega
              have hoa' := hoa (by omega)
              subst hoa'
              have g1 := (HW.out.below hF.mem.bel (Nat.le_refl _)).cv x (s x + a) hxn (by omega) (by omega)
              have hya := HG.out.arc x (s x + a) hxn (by omega) (by omega)
              have hadj := adj_get (n := n) (s := s) (v := v) hxn hlt
              obtain ⟨y, hy⟩ : ∃ y, v (s x + a) = y := ⟨_, rfl⟩
              rw [hy] at g1 hya hadj
              have HADJ : Hid ((adjOf n s v x)[a]? = some y) := hadj
              have HDL : Hid (a < (adjOf n s v x).length) := by show a < _; rw [adj_len hxn]; exact hlt
              have g2 := hF.mem.cI (x := y) (by omega)
              have g3 := hF.mem.cO (x := y) (by omega)
              have g4 := hF.mem.cOv
              have hyi : (y : Int) < ((n - 1 : Nat) : Int) := by omega
              have hxi : (x : Int) < ((n - 1 : Nat) : Int) := by omega
              have n2 : cg ≠ w.heap.size + 2 := by omega
              have n1 : cg ≠ w.heap.size + 1 := by omega
              have n3 : cg ≠ w.heap.size + 3 := by omega
              have n4 : cg ≠ w.heap.size + 4 := by omega
              have n5 : cg ≠ w.heap.size + 5 := by omega
              have n6 : cg ≠ w.heap.size + 6 := by omega
              by_cases h0 : σ.idx y = 0
              · rw [h0] at g2
                have H0 : Hid (σ.idx y = 0) := h0
                clear hF hadj hy h0 hoa
                go_wp2_with fail
                refine (HF.out.arcVisit hnle HCL.out rfl HADJ.out hya.1 H0.out).mono ?_
                rintro e w2 ⟨rfl, sv2, cv2, hF2⟩
                have HF2 := (show Hid _ from hF2)
                have HALL2 : Hid (∀ z, z < k + 1 → (σ.visit y ((x, a + 1) :: cs)).idx z ≠ 0) := fun z hz => by
                  show upd σ.idx y (σ.disc + 1) z ≠ 0
                  unfold upd
                  by_cases e : z = y
                  · rw [if_pos e]; omega
                  · rw [if_neg e]; exact HALL.out z hz
                have HMU := (show Hid _ from mu_visit HG.out HCL.out HDL.out hya.1 H0.out)
                clear hF2 HF HALL HCL H0 HADJ HDL g1 g2 g3 g4 d1 d2 d3 d4 d5 d6 d7 d8 d9
                go_wp2_with fail
                go_roundg (mu n m s v (σ.visit y ((x, a + 1) :: cs)))
                case measure => rw [HGK.out]; exact HMU.out
                case rel => exact ⟨_, sv2, cv2, rfl, rfl, HF2.out, HALL2.out⟩
              · have h0i : (((σ.idx y : Nat) : Int) == 0) = false := by rw [beq_eq_false_iff_ne]; omega
                have hyb : σ.idx y ≤ n - 1 := by have := hF.inv.le_disc y; have := hF.inv.count; omega
                cases hon : σ.onS y with
                | false =>
                  rw [hon] at g3
                  have HF2 := (show Hid _ from hF.arcOff HCL.out rfl HADJ.out h0 hon)
                  have HMU := (show Hid _ from mu_arc (m := m) HCL.out HDL.out σ.low)
                  clear hF HF hadj hy h0 hoa hon
                  go_wp2_with fail
                  go_roundg (mu n m s v { σ with calls := (x, a + 1) :: cs })
                  case measure => rw [HGK.out]; exact HMU.out
                  case rel => exact ⟨_, _, _, rfl, rfl, HF2.out, HALL.out⟩
                | true =>
                  rw [hon] at g3
                  have HF2 := (show Hid _ from fun L hL => hF.arcOn HCL.out rfl HADJ.out h0 hon L hL)
                  have HMU := (show Hid _ from fun l => mu_arc (m := m) HCL.out HDL.out l)
                  clear hF HF hadj hy h0 hoa hon
                  go_wp2_with fail
                  go_region
                  rw [min_if]
                  obtain ⟨L, hL⟩ : ∃ L, L = Nat.min (σ.low x) (σ.idx y) := ⟨_, rfl⟩
                  rw [← hL]
                  have HF3 := (show Hid _ from (HF2.out L hL).drew)
                  clear HF2 hL d1 d2 d3 d4 d5 d6 d7 d8 d9 g1 g2 g3 g4
                  go_wp2_with fail
                  go_roundg (mu n m s v { σ with calls := (x, a + 1) :: cs, low := upd σ.low x L })
                  case measure => rw [HGK.out]; exact HMU.out _
                  case rel => exact ⟨_, _, _, rfl, rfl, HF3.out, HALL.out⟩
            · have hae : a = (adjOf n s v x).length := by rw [adj_len hxn]; omega
              have HAE : Hid (a = (adjOf n s v x).length) := hae
              have hai : ¬ (a : Int) < ((s (x + 1) - s x : Nat) : Int) := by omega
              have hcc : cs.length + 1 ≤ ccap := by have hh := hF.co; rw [HCL.out] at hh; exact own_cap hh
              have hxi : (x : Int) < ((n - 1 : Nat) : Int) := by omega
              have n3 : cg ≠ w.heap.size + 3 := by omega
              have n4 : cg ≠ w.heap.size + 4 := by omega
              have n8 : cg ≠ w.heap.size + 8 := by omega
              clear hae hoa hlt
              rcases cs with _ | ⟨⟨p, b⟩, cs⟩
              · have hlow : σ.low x = σ.idx x := by
                  rcases Nat.decEq (σ.low x) (σ.idx x) with hne | he
                  · obtain ⟨_, c, b, _, _, _, hm, _⟩ := below_top hF.inv x a [] HCL.out hne
                    cases hm
                  · exact he
                obtain ⟨A, S, hPS⟩ := hF.toPS HCL.out rfl
                have HPS0 := (show Hid _ from hPS)
                have HINV := (show Hid _ from hF.inv)
                have HLOW : Hid (σ.low x = σ.idx x) := hlow
                have HSELF : Hid (x ∉ adjOf n s v x) := fun h => (adj_lt HG.out h).2 rfl
                obtain ⟨lo', hlo'⟩ : ∃ lo', lo' = σ.low := ⟨_, rfl⟩
                have HL : Hid (∀ c b, (c, b) ∈ ([] : List (Nat × Nat)) → lo' c = σ.low c) := fun c b h => nomatch h
                have hlb : (((σ.low x : Nat) : Int) != ((σ.idx x : Nat) : Int)) = false := by rw [hlow]; simp
                have hlb2 : (((σ.low x : Nat) : Int) == ((σ.idx x : Nat) : Int)) = true := by rw [hlow]; simp
                have d1' : w1.cell? ⟨w.heap.size + 8, 0, none⟩ = some (.slice (some ⟨cg, 0, none⟩) (0 + 1) ccap) := d1
                have d3' : w1.cell? ⟨cg, 0 * 2 + 1, none⟩ = some (.int .i64 (a : Int)) := d3
                have hcc5 : 0 + 1 ≤ ccap := hcc
                have hfi := hF.inv.le_disc x
                have hfj := hF.inv.count
                rw [hlow] at d7
                clear hF HF hlow d1 d2 d3 d4 hPS
                simp only [List.length_nil]
                go_wp2_with fail
                go_quiet (fail)
                have HPS := (show Hid _ from HPS0.out.after (below_drewN (Below.refl _ _) nq))
                rw [← hlo'] at HPS
                clear HPS0 hlo' d1' d3' df d5 d6 d7 d8 d9
                go_wp2_with fail
                go_loopg [18, 19] A.length (fun g sz sm wr => LP n w.heap.size (.slice (some ⟨bs, 0, none⟩) n n) (.slice av m m) w σ x S [] lo' g sz sm wr)
                case atStart => exact ⟨[], A, σ.onS, _, _, x, rfl, rfl, rfl, ⟨.inl rfl, Nat.le_refl _, fun y hy => nomatch hy⟩, HPS.out⟩
                case round =>
                  clear HPS
                  obtain ⟨P, A1, on', sv, cv, q, hg, rfl, rfl, hq, hP⟩ := hrel
                  have HP := (show Hid _ from hP)
                  have HQ := (show Hid _ from hq)
                  have HGG := (show Hid _ from hg)
                  have hql := hq.2.1
                  have hslen := HINV.out.stk_len
                  rw [hP.hA] at hslen
                  simp only [List.length_append, List.length_cons] at hslen
                  have hord := HINV.out.ord
                  rw [hP.hA] at hord
                  have k1 := hP.mem.cOv
                  have k2 := hP.mem.cS
                  have k3 := hP.mem.fz 7 0 (by omega)
                  clear hg hq
                  rcases A1 with _ | ⟨y, A1⟩
                  · obtain ⟨sg, scap, hsv, k4, k5, k6⟩ := stk_top (t := x) (T := S) hP.mem hP.so
                    subst hsv
                    have k7 := hP.mem.cO (x := x) (by omega)
                    have k8 := hP.mem.fz 5 x (by omega)
                    have q1 : ¬ x < q := by omega
                    have q2 : ¬ (x : Int) < (q : Int) := by omega
                    have s1 : sg ≠ w.heap.size + 5 := by omega
                    have s2 : sg ≠ w.heap.size + 6 := by omega
                    have s3 : sg ≠ w.heap.size + 7 := by omega
                    by_cases hPn : P = []
                    · have HF4 := (show Hid _ from hP.done (f' := σ.first) HINV.out rfl HCL.out HAE.out HLOW.out HSELF.out HL.out HQ.out (.inl ⟨hPn, rfl⟩))
                      have hpl : P.length = 0 := by rw [hPn]; rfl
                      have hpi : ¬ (1 : Int) < (P.length : Int) + 1 := by omega
                      clear hP HP HQ hPn hord
                      go_wp2_with fail
                      go_roundg (mu n m s v { σ with stk := S, onS := upd on' x false, calls := [], low := lo', first := σ.first })
                      case measure => rw [HGK.out]; exact mu_end HCL.out rfl rfl
                      case rel => exact ⟨_, _, _, rfl, rfl, HF4.out, HALL.out⟩
                    · have HF4 := (show Hid _ from hP.done (f' := Nat.min σ.first q) HINV.out rfl HCL.out HAE.out HLOW.out HSELF.out HL.out HQ.out (.inr ⟨hPn, rfl⟩))
                      have hpl : P.length ≠ 0 := fun h => hPn (List.eq_nil_of_length_eq_zero h)
                      have hpi : (1 : Int) < (P.length : Int) + 1 := by omega
                      clear hP HP HQ hPn hord
                      go_wp2_with fail
                      all_goals (
                        go_roundg (mu n m s v { σ with stk := S, onS := upd on' x false, calls := [], low := lo', first := Nat.min σ.first q })
                        case measure => rw [HGK.out]; exact mu_end HCL.out rfl rfl
                        case rel =>
                          refine ⟨_, _, _, rfl, ?_, HF4.out, HALL.out⟩
                          first
                            | exact congrArg (Value.int .i32) (min_if _ _)
                            | (show Value.int .i32 _ = Value.int .i32 ((Nat.min σ.first q : Nat) : Int); rw [show Nat.min σ.first q = q from Nat.min_eq_right (by omega)])
                            | (show Value.int .i32 _ = Value.int .i32 ((Nat.min σ.first q : Nat) : Int); rw [show Nat.min σ.first q = σ.first from Nat.min_eq_left (by omega)]))
                  · obtain ⟨sg, scap, hsv, k4, k5, k6⟩ := stk_top (t := y) (T := A1 ++ x :: S) hP.mem hP.so
                    subst hsv
                    have hym : y ∈ σ.stk := by rw [hP.hA]; simp
                    have hyn := HINV.out.idx_lt y (HINV.out.stk_pos y hym)
                    have hyx : y ≠ x := by
                      intro e
                      rw [List.pairwise_append] at hord
                      have h2 := hord.2.1
                      rw [List.cons_append, List.pairwise_cons] at h2
                      have h3 := h2.1 x (by simp)
                      rw [e] at h3; omega
                    have k7 := hP.mem.cO (x := y) (by omega)
                    have k8 := hP.mem.fz 5 y (by omega)
                    have hyi : (y : Int) < ((n - 1 : Nat) : Int) := by omega
                    have hyb : ((y : Int) == (x : Int)) = false := by rw [beq_eq_false_iff_ne]; omega
                    have s1 : sg ≠ w.heap.size + 5 := by omega
                    have s2 : sg ≠ w.heap.size + 6 := by omega
                    have s3 : sg ≠ w.heap.size + 7 := by omega
                    obtain ⟨tl, htl⟩ : ∃ tl, (A1 ++ x :: S).length = tl := ⟨_, rfl⟩
                    have HP2 := (show Hid _ from hP.pop rfl)
                    have hlt : (y :: A1).length = A1.length + 1 := rfl
                    have HG2 : Hid (A1.length < (y :: A1).length) := by show _ < _; rw [hlt]; omega
                    have hPl : P.length ≤ 4096 := by omega
                    have htb : tl ≤ 4096 := by rw [← htl, List.length_append, List.length_cons]; simp only [List.length_cons] at hslen; omega
                    have HQ2 : Hid (((Nat.min q y = x ∨ Nat.min q y ∈ P ++ [y]) ∧ Nat.min q y ≤ x ∧ ∀ z, z ∈ P ++ [y] → Nat.min q y ≤ z)) := by
                      have m1 : Nat.min q y ≤ q := Nat.min_le_left _ _
                      have m2 : Nat.min q y ≤ y := Nat.min_le_right _ _
                      refine ⟨?_, by omega, fun z hz => ?_⟩
                      · rcases Nat.le_total q y with e | e
                        · rw [show Nat.min q y = q from Nat.min_eq_left e]
                          exact HQ.out.1.elim .inl fun h => .inr (List.mem_append_left _ h)
                        · rw [show Nat.min q y = y from Nat.min_eq_right e]
                          exact .inr (by simp)
                      · rcases List.mem_append.1 hz with hz | hz
                        · exact Nat.le_trans m1 (HQ.out.2.2 z hz)
                        · rw [List.mem_singleton] at hz; subst hz; exact m2
                    rw [htl] at k4 k5 k2
                    rw [htl] at HP2
                    clear hP HP HQ hord hym hlt hslen htl
                    go_wp2_with fail
                    all_goals (
                      go_roundg A1.length
                      case measure => rw [HGG.out]; exact HG2.out
                      case rel =>
                        refine ⟨P ++ [y], A1, _, _, _, Nat.min q y, rfl, by simp, ?_, HQ2.out, HP2.out⟩
                        first
                          | exact congrArg (Value.int .i32) (min_if _ _)
                          | (rw [show Nat.min q y = y from Nat.min_eq_right (by omega)])
                          | (rw [show Nat.min q y = q from Nat.min_eq_left (by omega)]))
              · by_cases hlow : σ.low x = σ.idx x
                · obtain ⟨A, S, hPS⟩ := hF.toPS HCL.out rfl
                  have HPS0 := (show Hid _ from hPS)
                  have HINV := (show Hid _ from hF.inv)
                  have HLOW : Hid (σ.low x = σ.idx x) := hlow
                  have HSELF : Hid (x ∉ adjOf n s v x) := fun h => (adj_lt HG.out h).2 rfl
                  have hlb : (((σ.low x : Nat) : Int) != ((σ.idx x : Nat) : Int)) = false := by rw [hlow]; simp
                  have hlb2 : (((σ.low x : Nat) : Int) == ((σ.idx x : Nat) : Int)) = true := by rw [hlow]; simp
                  obtain ⟨e1, e2, e3, e7, e8⟩ := hF.top2 HCL.out
                  have e4 := hF.mem.cL (x := p) (by omega)
                  have e5 := hF.mem.fz 3 p (by omega)
                  have d1' : w1.cell? ⟨w.heap.size + 8, 0, none⟩ = some (.slice (some ⟨cg, 0, none⟩) (cs.length + 1 + 1) ccap) := d1
                  have d3' : w1.cell? ⟨cg, (cs.length + 1) * 2 + 1, none⟩ = some (.int .i64 (a : Int)) := d3
                  have hpi : (p : Int) < ((n - 1 : Nat) : Int) := by omega
                  have e6 : x ≠ p := fun h => e3 h.symm
                  have hcl5 : cs.length + 1 + 1 ≤ 4096 := hcl4
                  have hcc5 : cs.length + 1 + 1 ≤ ccap := hcc
                  have hcc6 : ((cs.length : Int) + 1) ≤ (ccap : Int) := by omega
                  obtain ⟨lo', hlo'⟩ : ∃ lo', lo' = upd σ.low p (σ.low p) := ⟨_, rfl⟩
                  have HL : Hid (∀ c b', (c, b') ∈ (p, b) :: cs → lo' c = σ.low c) := fun c b' h => by
                    rw [hlo']
                    unfold upd
                    split
                    · rename_i e; rw [e]
                    · rfl
                  have HPS1 := (show Hid _ from hPS.setLow p (σ.low p))
                  rw [← hlo'] at HPS1
                  have hnp : ¬ σ.low x < σ.low p := by omega
                  clear hF HF d1 d2 d3 d4 hPS HPS0 hlo'
                  simp only [List.length_cons]
                  go_wp2_with fail
                  go_region
                  go_wp2_with fail
                  go_quiet (fail)
                  have HPS := (show Hid _ from (HPS1.out.after (w1 := World.drew _) (Below.refl _ _).drew).after (below_drewN (Below.refl _ _) nq))
                  clear HPS1 d1' d3' df d5 d6 d7 d8 d9 e1 e4 e5
                  go_wp2_with fail
                  go_loopg [18, 19] A.length (fun g sz sm wr => LP n w.heap.size (.slice (some ⟨bs, 0, none⟩) n n) (.slice av m m) w σ x S ((p, b) :: cs) lo' g sz sm wr)
                  case atStart => exact ⟨[], A, σ.onS, _, _, x, rfl, rfl, rfl, ⟨.inl rfl, Nat.le_refl _, fun y hy => nomatch hy⟩, HPS.out⟩
                  case round =>
                    clear HPS
                    obtain ⟨P, A1, on', sv, cv, q, hg, rfl, rfl, hq, hP⟩ := hrel
                    have HP := (show Hid _ from hP)
                    have HQ := (show Hid _ from hq)
                    have HGG := (show Hid _ from hg)
                    have hql := hq.2.1
                    have hslen := HINV.out.stk_len
                    rw [hP.hA] at hslen
                    simp only [List.length_append, List.length_cons] at hslen
                    have hord := HINV.out.ord
                    rw [hP.hA] at hord
                    have k1 := hP.mem.cOv
                    have k2 := hP.mem.cS
                    have k3 := hP.mem.fz 7 0 (by omega)
                    clear hg hq
                    rcases A1 with _ | ⟨y, A1⟩
                    · obtain ⟨sg, scap, hsv, k4, k5, k6⟩ := stk_top (t := x) (T := S) hP.mem hP.so
                      subst hsv
                      have k7 := hP.mem.cO (x := x) (by omega)
                      have k8 := hP.mem.fz 5 x (by omega)
                      have q1 : ¬ x < q := by omega
                      have q2 : ¬ (x : Int) < (q : Int) := by omega
                      have s1 : sg ≠ w.heap.size + 5 := by omega
                      have s2 : sg ≠ w.heap.size + 6 := by omega
                      have s3 : sg ≠ w.heap.size + 7 := by omega
                      by_cases hPn : P = []
                      · have HF4 := (show Hid _ from hP.done (f' := σ.first) HINV.out rfl HCL.out HAE.out HLOW.out HSELF.out HL.out HQ.out (.inl ⟨hPn, rfl⟩))
                        have hpl : P.length = 0 := by rw [hPn]; rfl
                        have hpi : ¬ (1 : Int) < (P.length : Int) + 1 := by omega
                        clear hP HP HQ hPn hord
                        go_wp2_with fail
                        go_roundg (mu n m s v { σ with stk := S, onS := upd on' x false, calls := (p, b) :: cs, low := lo', first := σ.first })
                        case measure => rw [HGK.out]; exact mu_end HCL.out rfl rfl
                        case rel => exact ⟨_, _, _, rfl, rfl, HF4.out, HALL.out⟩
                      · have HF4 := (show Hid _ from hP.done (f' := Nat.min σ.first q) HINV.out rfl HCL.out HAE.out HLOW.out HSELF.out HL.out HQ.out (.inr ⟨hPn, rfl⟩))
                        have hpl : P.length ≠ 0 := fun h => hPn (List.eq_nil_of_length_eq_zero h)
                        have hpi : (1 : Int) < (P.length : Int) + 1 := by omega
                        clear hP HP HQ hPn hord
                        go_wp2_with fail
                        all_goals (
                          go_roundg (mu n m s v { σ with stk := S, onS := upd on' x false, calls := (p, b) :: cs, low := lo', first := Nat.min σ.first q })
                          case measure => rw [HGK.out]; exact mu_end HCL.out rfl rfl
                          case rel =>
                            refine ⟨_, _, _, rfl, ?_, HF4.out, HALL.out⟩
                            first
                              | exact congrArg (Value.int .i32) (min_if _ _)
                              | (show Value.int .i32 _ = Value.int .i32 ((Nat.min σ.first q : Nat) : Int); rw [show Nat.min σ.first q = q from Nat.min_eq_right (by omega)])
                              | (show Value.int .i32 _ = Value.int .i32 ((Nat.min σ.first q : Nat) : Int); rw [show Nat.min σ.first q = σ.first from Nat.min_eq_left (by omega)]))
                    · obtain ⟨sg, scap, hsv, k4, k5, k6⟩ := stk_top (t := y) (T := A1 ++ x :: S) hP.mem hP.so
                      subst hsv
                      have hym : y ∈ σ.stk := by rw [hP.hA]; simp
                      have hyn := HINV.out.idx_lt y (HINV.out.stk_pos y hym)
                      have hyx : y ≠ x := by
                        intro e
                        rw [List.pairwise_append] at hord
                        have h2 := hord.2.1
                        rw [List.cons_append, List.pairwise_cons] at h2
                        have h3 := h2.1 x (by simp)
                        rw [e] at h3; omega
                      have k7 := hP.mem.cO (x := y) (by omega)
                      have k8 := hP.mem.fz 5 y (by omega)
                      have hyi : (y : Int) < ((n - 1 : Nat) : Int) := by omega
                      have hyb : ((y : Int) == (x : Int)) = false := by rw [beq_eq_false_iff_ne]; omega
                      have s1 : sg ≠ w.heap.size + 5 := by omega
                      have s2 : sg ≠ w.heap.size + 6 := by omega
                      have s3 : sg ≠ w.heap.size + 7 := by omega
                      obtain ⟨tl, htl⟩ : ∃ tl, (A1 ++ x :: S).length = tl := ⟨_, rfl⟩
                      have HP2 := (show Hid _ from hP.pop rfl)
                      have hlt : (y :: A1).length = A1.length + 1 := rfl
                      have HG2 : Hid (A1.length < (y :: A1).length) := by show _ < _; rw [hlt]; omega
                      have hPl : P.length ≤ 4096 := by omega
                      have htb : tl ≤ 4096 := by rw [← htl, List.length_append, List.length_cons]; simp only [List.length_cons] at hslen; omega
                      have HQ2 : Hid (((Nat.min q y = x ∨ Nat.min q y ∈ P ++ [y]) ∧ Nat.min q y ≤ x ∧ ∀ z, z ∈ P ++ [y] → Nat.min q y ≤ z)) := by
                        have m1 : Nat.min q y ≤ q := Nat.min_le_left _ _
                        have m2 : Nat.min q y ≤ y := Nat.min_le_right _ _
                        refine ⟨?_, by omega, fun z hz => ?_⟩
                        · rcases Nat.le_total q y with e | e
                          · rw [show Nat.min q y = q from Nat.min_eq_left e]
                            exact HQ.out.1.elim .inl fun h => .inr (List.mem_append_left _ h)
                          · rw [show Nat.min q y = y from Nat.min_eq_right e]
                            exact .inr (by simp)
                        · rcases List.mem_append.1 hz with hz | hz
                          · exact Nat.le_trans m1 (HQ.out.2.2 z hz)
                          · rw [List.mem_singleton] at hz; subst hz; exact m2
                      rw [htl] at k4 k5 k2
                      rw [htl] at HP2
                      clear hP HP HQ hord hym hlt hslen htl
                      go_wp2_with fail
                      all_goals (
                        go_roundg A1.length
                        case measure => rw [HGG.out]; exact HG2.out
                        case rel =>
                          refine ⟨P ++ [y], A1, _, _, _, Nat.min q y, rfl, by simp, ?_, HQ2.out, HP2.out⟩
                          first
                            | exact congrArg (Value.int .i32) (min_if _ _)
                            | (rw [show Nat.min q y = y from Nat.min_eq_right (by omega)])
                            | (rw [show Nat.min q y = q from Nat.min_eq_left (by omega)]))
                · have hlb : (((σ.low x : Nat) : Int) != ((σ.idx x : Nat) : Int)) = true := by rw [bne_iff_ne]; omega
                  have hlb2 : (((σ.low x : Nat) : Int) == ((σ.idx x : Nat) : Int)) = false := by rw [beq_eq_false_iff_ne]; omega
                  have HF2 := (show Hid _ from fun L hL => hF.endLow HCL.out rfl HAE.out hlow L hL)
                  have HMU := (show Hid _ from fun (τ : St) h1 h2 => mu_end (n := n) (m := m) (s := s) (v := v) (τ := τ) HCL.out h1 h2)
                  obtain ⟨e1, e2, e3, _, _⟩ := hF.top2 HCL.out
                  have e4 := hF.mem.cL (x := p) (by omega)
                  have e5 := hF.mem.fz 3 p (by omega)
                  have d1' : w1.cell? ⟨w.heap.size + 8, 0, none⟩ = some (.slice (some ⟨cg, 0, none⟩) (cs.length + 1 + 1) ccap) := d1
                  have d3' : w1.cell? ⟨cg, (cs.length + 1) * 2 + 1, none⟩ = some (.int .i64 (a : Int)) := d3
                  have hpi : (p : Int) < ((n - 1 : Nat) : Int) := by omega
                  have e6 : x ≠ p := fun h => e3 h.symm
                  have hcl5 : cs.length + 1 + 1 ≤ 4096 := hcl4
                  have hcc5 : cs.length + 1 + 1 ≤ ccap := hcc
                  have hcc6 : ((cs.length : Int) + 1) ≤ (ccap : Int) := by omega
                  clear hF HF hlow d1 d2 d3 d4
                  simp only [List.length_cons]
                  go_wp2_with fail
                  go_region
                  rw [min_if]
                  obtain ⟨L, hL⟩ : ∃ L, L = Nat.min (σ.low p) (σ.low x) := ⟨_, rfl⟩
                  rw [← hL]
                  have HF3 := (show Hid _ from (HF2.out L hL).drew)
                  clear HF2 hL
                  go_wp2_with fail
                  go_quiet (fail)
                  go_wp2_with fail
                  go_roundg (mu n m s v { σ with calls := (p, b) :: cs, low := upd σ.low p L })
                  case measure => rw [HGK.out]; exact HMU.out _ rfl rfl
                  case rel => exact ⟨_, _, _, rfl, rfl, HF3.out.after (below_drewN (Below.refl _ _) _), HALL.out⟩
      · have h1 : (((σ.idx k : Nat) : Int) != 0) = true := by rw [bne_iff_ne]; omega
        have h2 : (((σ.idx k : Nat) : Int) == 0) = false := by rw [beq_eq_false_iff_ne]; omega
        have HALL1 : Hid (∀ z, z < k + 1 → σ.idx z ≠ 0) := fun z hz => by
          by_cases e : z = k
          · subst e; exact h0
          · exact HALL.out z (by omega)
        clear hF hcl hall h0 HALL
        go_wp2_with fail
        exact ⟨⟨k + 1, σ, _, _, by omega, by go_num, rfl, HF.out, HCL.out, HALL1.out⟩, by simp [intOf]; omega⟩
    · have hki : ¬ (k : Int) < (n : Int) - 1 := by omega
      have HR : Hid (RetS (adjOf n s v) (n - 1) (.returned (.int .i32 (σ.first : Int))) ∧ Below w.heap.size w wr) := by
        obtain ⟨l1, l2⟩ := last_inv hF.inv hcl (fun z hz => hall z (by omega))
        refine ⟨⟨σ.first, rfl, hfl, fun j hj hcy => ?_, fun h => ?_⟩, hF.mem.bel⟩
        · have := l1 j (by omega) hcy; omega
        · exact hF.inv.f_cyc h
      clear hF hcl hall HF HCL HALL
      go_wp2_with fail
      go_ret
      exact HR.out
end Go.Proofs.Qxb6603909a
