/- Plain laws: Tarjan's components by an explicit stack of calls. No Go in sight. -/
namespace Go.Proofs.Qxb6603909a

def upd {α : Type} (f : Nat → α) (n : Nat) (v : α) : Nat → α := fun x => if x = n then v else f x
theorem upd_same {α : Type} (f : Nat → α) (n : Nat) (v : α) : upd f n v n = v := if_pos rfl
theorem upd_ne {α : Type} (f : Nat → α) (n : Nat) (v : α) {x : Nat} (h : x ≠ n) : upd f n v x = f x := if_neg h

/-- v is reached from u: every set that holds u and is closed under successors holds v. -/
def R (adj : Nat → List Nat) (u v : Nat) : Prop := ∀ P : Nat → Prop, P u → (∀ x y, P x → y ∈ adj x → P y) → P v
/-- A walk of one arc or more leads from v back to v. -/
def Cyc (adj : Nat → List Nat) (v : Nat) : Prop := ∃ m, m ∈ adj v ∧ R adj m v

theorem R.refl (adj : Nat → List Nat) (u : Nat) : R adj u u := fun _ h _ => h
theorem R.trans {adj : Nat → List Nat} {u v w : Nat} (h : R adj u v) (k : R adj v w) : R adj u w := fun P hu hc => k P (h P hu hc) hc
theorem R.step {adj : Nat → List Nat} {u v : Nat} (h : v ∈ adj u) : R adj u v := fun _ hu hc => hc u v hu h
theorem R.first {adj : Nat → List Nat} {u v : Nat} (h : R adj u v) : u = v ∨ ∃ m, m ∈ adj u ∧ R adj m v := by
  refine h (fun x => u = x ∨ ∃ m, m ∈ adj u ∧ R adj m x) (.inl rfl) ?_
  rintro x y (rfl | ⟨m, hm, hr⟩) hy
  · exact .inr ⟨y, hy, R.refl _ _⟩
  · exact .inr ⟨m, hm, hr.trans (R.step hy)⟩

structure St where
  idx : Nat → Nat
  low : Nat → Nat
  onS : Nat → Bool
  stk : List Nat
  calls : List (Nat × Nat)
  disc : Nat
  first : Nat

/-- How many nodes are not found yet. -/
def und (idx : Nat → Nat) (N : Nat) : Nat := ((List.range N).filter (fun v => idx v == 0)).length

structure Inv (adj : Nat → List Nat) (N : Nat) (σ : St) : Prop where
  stk_on : ∀ v, v ∈ σ.stk ↔ σ.onS v = true
  stk_pos : ∀ v, v ∈ σ.stk → σ.idx v ≠ 0
  ord : σ.stk.Pairwise (fun x y => σ.idx y < σ.idx x)
  le_disc : ∀ v, σ.idx v ≤ σ.disc
  idx_lt : ∀ v, σ.idx v ≠ 0 → v < N
  count : σ.disc + und σ.idx N = N
  c_stk : ∀ c a, (c, a) ∈ σ.calls → c ∈ σ.stk
  c_le : ∀ c a, (c, a) ∈ σ.calls → a ≤ (adj c).length
  c_ord : σ.calls.Pairwise (fun x y => σ.idx y.1 < σ.idx x.1)
  done_cl : ∀ v, σ.idx v ≠ 0 → σ.onS v = false → ∀ z, z ∈ adj v → σ.idx z ≠ 0 ∧ σ.onS z = false
  fin : ∀ v, v ∈ σ.stk → (∀ a, (v, a) ∉ σ.calls) → ∀ z, z ∈ adj v → σ.idx z ≠ 0
  part : ∀ c a, (c, a) ∈ σ.calls → ∀ z, z ∈ (adj c).take a → σ.idx z ≠ 0
  down : ∀ c a, (c, a) ∈ σ.calls → ∀ y, y ∈ σ.stk → σ.idx c ≤ σ.idx y → R adj c y
  up : ∀ y, y ∈ σ.stk → ∃ c a, (c, a) ∈ σ.calls ∧ σ.idx c ≤ σ.idx y ∧ R adj y c
  low_s : ∀ c a, (c, a) ∈ σ.calls → σ.low c ≤ σ.idx c ∧ ∃ u, u ∈ σ.stk ∧ σ.idx u = σ.low c ∧ R adj c u
  low_c : ∀ c a, (c, a) ∈ σ.calls → ∀ y, y ∈ σ.stk → σ.idx c ≤ σ.idx y → (∀ c' a', (c', a') ∈ σ.calls → σ.idx c < σ.idx c' → σ.idx y < σ.idx c') → ∀ z, (if y = c then z ∈ (adj c).take a else z ∈ adj y) → σ.onS z = true → σ.low c ≤ σ.idx z
  f_le : σ.first ≤ N
  f_all : ∀ y, σ.idx y ≠ 0 → σ.onS y = false → Cyc adj y → σ.first ≤ y
  f_cyc : σ.first < N → Cyc adj σ.first

theorem pair_inj {idx : Nat → Nat} : ∀ {l : List Nat}, l.Pairwise (fun x y => idx y < idx x) → ∀ {x y : Nat}, x ∈ l → y ∈ l → idx x = idx y → x = y
  | [], _, x, _, hx, _, _ => by cases hx
  | a :: l, h, x, y, hx, hy, e => by
    rw [List.pairwise_cons] at h
    rcases List.mem_cons.1 hx with rfl | hx' <;> rcases List.mem_cons.1 hy with rfl | hy'
    · rfl
    · have := h.1 y hy'; omega
    · have := h.1 x hx'; omega
    · exact pair_inj h.2 hx' hy' e
theorem und_upd (idx : Nat → Nat) (n v : Nat) (hv : v ≠ 0) (hn : idx n = 0) : ∀ N, n < N → und (upd idx n v) N + 1 = und idx N := by
  intro N
  induction N with
  | zero => intro h; omega
  | succ N ih =>
    intro h
    unfold und at *
    rw [List.range_succ, List.filter_append, List.filter_append, List.length_append, List.length_append]
    by_cases e : n = N
    · subst e
      have e1 : (List.range n).filter (fun v_1 => upd idx n v v_1 == 0) = (List.range n).filter (fun v => idx v == 0) := by
        apply List.filter_congr
        intro x hx
        rw [upd_ne _ _ _ (by have := List.mem_range.1 hx; omega)]
      rw [e1]
      simp [upd_same, hv, hn]
    · have := ih (by omega)
      have e2 : upd idx n v N = idx N := upd_ne _ _ _ (by omega)
      simp only [List.filter_cons, List.filter_nil, e2]
      omega
theorem und_le (idx : Nat → Nat) (N : Nat) : und idx N ≤ N := by
  unfold und
  have := List.length_filter_le (fun v => idx v == 0) (List.range N)
  simpa using this

/-- A new node on the stack and among the calls. -/
def St.visit (σ : St) (m : Nat) (cs : List (Nat × Nat)) : St :=
  { idx := upd σ.idx m (σ.disc + 1), low := upd σ.low m (σ.disc + 1), onS := upd σ.onS m true, stk := m :: σ.stk, calls := (m, 0) :: cs, disc := σ.disc + 1, first := σ.first }

/-- The step to a node that is not found yet: 'cs' are the calls, the top one's arc counted. -/
theorem visit_inv {adj : Nat → List Nat} {N : Nat} {σ : St} (h : Inv adj N σ) (m : Nat) (hm : m < N) (h0 : σ.idx m = 0) (cs : List (Nat × Nat))
    (c1 : ∀ c a', (c, a') ∈ cs → ∃ a, (c, a) ∈ σ.calls ∧ a' ≤ (adj c).length ∧ ∀ z, z ∈ (adj c).take a' → z ∈ (adj c).take a ∨ z = m)
    (c2 : ∀ c a, (c, a) ∈ σ.calls → ∃ a', (c, a') ∈ cs) (c3 : cs.Pairwise (fun x y => σ.idx y.1 < σ.idx x.1)) (hr : ∀ c a, (c, a) ∈ σ.calls → R adj c m) :
    Inv adj N (σ.visit m cs) := by
  have mS : m ∉ σ.stk := fun e => h.stk_pos m e h0
  have mO : σ.onS m = false := by
    cases e : σ.onS m with
    | false => rfl
    | true => exact absurd ((h.stk_on m).2 e) mS
  have neS : ∀ {v}, v ∈ σ.stk → v ≠ m := fun hv e => mS (e ▸ hv)
  have neC : ∀ {c a}, (c, a) ∈ σ.calls → c ≠ m := fun hc => neS (h.c_stk _ _ hc)
  have neC' : ∀ {c a}, (c, a) ∈ cs → c ≠ m := fun hc => by obtain ⟨a, ha, _⟩ := c1 _ _ hc; exact neC ha
  have neI : ∀ {v}, σ.idx v ≠ 0 → v ≠ m := fun hv e => hv (e ▸ h0)
  have iS : ∀ {v}, v ∈ σ.stk → upd σ.idx m (σ.disc + 1) v = σ.idx v := fun hv => upd_ne _ _ _ (neS hv)
  have iC : ∀ {c a}, (c, a) ∈ cs → upd σ.idx m (σ.disc + 1) c = σ.idx c := fun hc => upd_ne _ _ _ (neC' hc)
  have im : upd σ.idx m (σ.disc + 1) m = σ.disc + 1 := upd_same _ _ _
  refine ⟨?_, ?_, ?_, ?_, ?_, ?_, ?_, ?_, ?_, ?_, ?_, ?_, ?_, ?_, ?_, ?_, h.f_le, ?_, h.f_cyc⟩
  · intro v
    show v ∈ m :: σ.stk ↔ upd σ.onS m true v = true
    by_cases e : v = m
    · subst e; rw [upd_same]; simp
    · rw [upd_ne _ _ _ e, List.mem_cons, h.stk_on v]; simp [e]
  · intro v hv
    show upd σ.idx m (σ.disc + 1) v ≠ 0
    rcases List.mem_cons.1 hv with rfl | hv
    · rw [im]; omega
    · rw [iS hv]; exact h.stk_pos v hv
  · show (m :: σ.stk).Pairwise (fun x y => upd σ.idx m (σ.disc + 1) y < upd σ.idx m (σ.disc + 1) x)
    rw [List.pairwise_cons]
    refine ⟨fun y hy => ?_, ?_⟩
    · rw [iS hy, im]; have := h.le_disc y; omega
    · exact h.ord.imp_of_mem fun {a b} ha hb hab => by rw [iS ha, iS hb]; exact hab
  · intro v
    show upd σ.idx m (σ.disc + 1) v ≤ σ.disc + 1
    by_cases e : v = m
    · subst e; rw [im]; omega
    · rw [upd_ne _ _ _ e]; have := h.le_disc v; omega
  · intro v hv
    by_cases e : v = m
    · subst e; exact hm
    · exact h.idx_lt v (by have : upd σ.idx m (σ.disc + 1) v = σ.idx v := upd_ne _ _ _ e; rw [← this]; exact hv)
  · show σ.disc + 1 + und (upd σ.idx m (σ.disc + 1)) N = N
    have := und_upd σ.idx m (σ.disc + 1) (by omega) h0 N hm
    have := h.count
    omega
  · intro c a hc
    rcases List.mem_cons.1 hc with e | hc
    · injection e with e1 e2; subst e1; exact List.mem_cons_self
    · obtain ⟨a', ha, _⟩ := c1 _ _ hc
      exact List.mem_cons_of_mem _ (h.c_stk _ _ ha)
  · intro c a hc
    rcases List.mem_cons.1 hc with e | hc
    · injection e with e1 e2; subst e2; omega
    · obtain ⟨a', ha, hl, _⟩ := c1 _ _ hc; exact hl
  · show ((m, 0) :: cs).Pairwise (fun x y => upd σ.idx m (σ.disc + 1) y.1 < upd σ.idx m (σ.disc + 1) x.1)
    rw [List.pairwise_cons]
    refine ⟨fun y hy => ?_, ?_⟩
    · rw [iC (c := y.1) (a := y.2) hy, im]; have := h.le_disc y.1; omega
    · exact c3.imp_of_mem fun {a b} ha hb hab => by rw [iC (c := a.1) (a := a.2) ha, iC (c := b.1) (a := b.2) hb]; exact hab
  · intro v hv ho z hz
    have e : v ≠ m := fun e => by
      subst e
      have : upd σ.onS v true v = false := ho
      rw [upd_same] at this; cases this
    have hv' : σ.idx v ≠ 0 := by have : upd σ.idx m (σ.disc + 1) v = σ.idx v := upd_ne _ _ _ e; rw [← this]; exact hv
    have ho' : σ.onS v = false := by have : upd σ.onS m true v = σ.onS v := upd_ne _ _ _ e; rw [← this]; exact ho
    obtain ⟨z1, z2⟩ := h.done_cl v hv' ho' z hz
    have ez : z ≠ m := neI z1
    exact ⟨by show upd σ.idx m (σ.disc + 1) z ≠ 0; rw [upd_ne _ _ _ ez]; exact z1, by show upd σ.onS m true z = false; rw [upd_ne _ _ _ ez]; exact z2⟩
  · intro v hv hn z hz
    rcases List.mem_cons.1 hv with rfl | hv
    · exact absurd List.mem_cons_self (hn 0)
    · have := h.fin v hv (fun a ha => by obtain ⟨a', ha'⟩ := c2 _ _ ha; exact hn a' (List.mem_cons_of_mem _ ha')) z hz
      show upd σ.idx m (σ.disc + 1) z ≠ 0
      rw [upd_ne _ _ _ (neI this)]; exact this
  · intro c a hc z hz
    show upd σ.idx m (σ.disc + 1) z ≠ 0
    rcases List.mem_cons.1 hc with e | hc
    · injection e with e1 e2; subst e2; simp at hz
    · obtain ⟨a', ha, _, hx⟩ := c1 _ _ hc
      rcases hx z hz with hz | rfl
      · have := h.part c a' ha z hz
        rw [upd_ne _ _ _ (neI this)]; exact this
      · rw [im]; omega
  · intro c a hc y hy hle
    have hle' : upd σ.idx m (σ.disc + 1) c ≤ upd σ.idx m (σ.disc + 1) y := hle
    rcases List.mem_cons.1 hc with e | hc
    · injection e with e1 e2; subst e1
      rcases List.mem_cons.1 hy with rfl | hy
      · exact R.refl _ _
      · rw [im, iS hy] at hle'; have := h.le_disc y; omega
    · obtain ⟨a', ha, _⟩ := c1 _ _ hc
      rcases List.mem_cons.1 hy with rfl | hy
      · exact hr c a' ha
      · rw [iC hc, iS hy] at hle'
        exact h.down c a' ha y hy hle'
  · intro y hy
    rcases List.mem_cons.1 hy with rfl | hy
    · exact ⟨y, 0, List.mem_cons_self, Nat.le_refl _, R.refl _ _⟩
    · obtain ⟨c, a, hc, hl, hr'⟩ := h.up y hy
      obtain ⟨a', ha'⟩ := c2 _ _ hc
      exact ⟨c, a', List.mem_cons_of_mem _ ha', by show upd σ.idx m (σ.disc + 1) c ≤ upd σ.idx m (σ.disc + 1) y; rw [iC ha', iS hy]; exact hl, hr'⟩
  · intro c a hc
    show upd σ.low m (σ.disc + 1) c ≤ upd σ.idx m (σ.disc + 1) c ∧ ∃ u, u ∈ m :: σ.stk ∧ upd σ.idx m (σ.disc + 1) u = upd σ.low m (σ.disc + 1) c ∧ R adj c u
    rcases List.mem_cons.1 hc with e | hc
    · injection e with e1 e2; subst e1
      rw [im, upd_same]
      exact ⟨Nat.le_refl _, c, List.mem_cons_self, im, R.refl _ _⟩
    · obtain ⟨a', ha, _⟩ := c1 _ _ hc
      obtain ⟨l1, u, hu, l2, l3⟩ := h.low_s c a' ha
      rw [iC hc, upd_ne σ.low _ _ (neC' hc)]
      exact ⟨l1, u, List.mem_cons_of_mem _ hu, by rw [iS hu]; exact l2, l3⟩
  · intro c a hc y hy hle hcond z hz ho
    have hle' : upd σ.idx m (σ.disc + 1) c ≤ upd σ.idx m (σ.disc + 1) y := hle
    show upd σ.low m (σ.disc + 1) c ≤ upd σ.idx m (σ.disc + 1) z
    rcases List.mem_cons.1 hc with e | hc2
    · injection e with e1 e2; subst e1; subst e2
      rcases List.mem_cons.1 hy with rfl | hy
      · rw [if_pos rfl] at hz; simp at hz
      · rw [im, iS hy] at hle'; have := h.le_disc y; omega
    · obtain ⟨a', ha, _, hx⟩ := c1 _ _ hc2
      have hcm := neC' hc2
      rw [upd_ne σ.low _ _ hcm]
      have hlm := h.low_s c a' ha
      have hld := h.le_disc c
      by_cases ez : z = m
      · subst ez; rw [im]; omega
      · rw [upd_ne _ _ _ ez]
        have ho' : σ.onS z = true := by have : upd σ.onS m true z = σ.onS z := upd_ne _ _ _ ez; rw [← this]; exact ho
        rcases List.mem_cons.1 hy with rfl | hy
        · have := hcond y 0 List.mem_cons_self (by show upd σ.idx y (σ.disc + 1) c < upd σ.idx y (σ.disc + 1) y; rw [iC hc2, im]; omega)
          exact absurd this (Nat.lt_irrefl _)
        · rw [iC hc2, iS hy] at hle'
          refine h.low_c c a' ha y hy hle' ?_ z ?_ ho'
          · intro c' b hb hlt
            obtain ⟨b', hb'⟩ := c2 _ _ hb
            have := hcond c' b' (List.mem_cons_of_mem _ hb') (by show upd σ.idx m (σ.disc + 1) c < upd σ.idx m (σ.disc + 1) c'; rw [iC hc2, iC hb']; exact hlt)
            have t : upd σ.idx m (σ.disc + 1) y < upd σ.idx m (σ.disc + 1) c' := this
            rw [iS hy, iC hb'] at t; exact t
          · by_cases e : y = c
            · rw [if_pos e] at hz ⊢
              rcases hx z hz with h1 | h1
              · exact h1
              · exact absurd h1 ez
            · rw [if_neg e] at hz ⊢; exact hz
  · intro y hy ho hcy
    have e : y ≠ m := fun e => by
      subst e
      have : upd σ.onS y true y = false := ho
      rw [upd_same] at this; cases this
    exact h.f_all y (by have : upd σ.idx m (σ.disc + 1) y = σ.idx y := upd_ne _ _ _ e; rw [← this]; exact hy) (by have : upd σ.onS m true y = σ.onS y := upd_ne _ _ _ e; rw [← this]; exact ho) hcy
end Go.Proofs.Qxb6603909a
