/- Plain laws: Tarjan's components: a component's end, the start and the end. No Go in sight. -/
import Derived.Test.Qxb6603909aTarjan2
namespace Go.Proofs.Qxb6603909a

section
variable {adj : Nat → List Nat} {N : Nat} {σ : St}

theorem seg_of (h : Inv adj N σ) {n : Nat} {A S : List Nat} (hs : σ.stk = A ++ n :: S) : (∀ y, y ∈ A → σ.idx n < σ.idx y) ∧ (∀ y, y ∈ S → σ.idx y < σ.idx n) := by
  have ho := h.ord
  rw [hs, List.pairwise_append] at ho
  obtain ⟨_, h2, h3⟩ := ho
  rw [List.pairwise_cons] at h2
  exact ⟨fun y hy => h3 y hy n List.mem_cons_self, fun y hy => h2.1 y hy⟩
/-- Where the component's nodes lead to. -/
theorem comp_closed (h : Inv adj N σ) {n : Nat} {A S : List Nat} {cs : List (Nat × Nat)} (hs : σ.stk = A ++ n :: S) (hc : σ.calls = (n, (adj n).length) :: cs) (hlow : σ.low n = σ.idx n) :
    ∀ x y, ((x ∈ A ∨ x = n) ∨ (σ.idx x ≠ 0 ∧ σ.onS x = false)) → y ∈ adj x → ((y ∈ A ∨ y = n) ∨ (σ.idx y ≠ 0 ∧ σ.onS y = false)) := by
  have htop : (n, (adj n).length) ∈ σ.calls := by rw [hc]; exact List.mem_cons_self
  have hord := h.c_ord
  rw [hc] at hord
  obtain ⟨hA, hS⟩ := seg_of h hs
  have hold : ∀ {c x}, (c, x) ∈ σ.calls → σ.idx c ≤ σ.idx n := fun {c x} hh => by
    rw [hc] at hh
    rcases List.mem_cons.1 hh with e | e
    · injection e with e1 e2; subst e1; omega
    · have := top_max hord e; omega
  intro x y hx hy
  rcases hx with hx | hx
  · have hxS : x ∈ σ.stk := by rw [hs]; rcases hx with hx | rfl <;> simp [*]
    have hxi : σ.idx n ≤ σ.idx x := by rcases hx with hx | rfl; (have := hA x hx; omega); omega
    have hy0 : σ.idx y ≠ 0 := by
      rcases hx with hx | rfl
      · refine h.fin x hxS (fun a ha => ?_) y hy
        have := hold ha; have := hA x hx; omega
      · exact h.part x _ htop y (by rw [List.take_length]; exact hy)
    cases ho : σ.onS y with
    | false => exact .inr ⟨hy0, rfl⟩
    | true =>
      have := h.low_c n _ htop x hxS hxi (fun c' a' h1 h2 => by have := hold h1; omega) y (by
        by_cases e : x = n
        · rw [if_pos e, List.take_length]; subst e; exact hy
        · rw [if_neg e]; exact hy) ho
      have hyS := (h.stk_on y).2 ho
      rw [hs] at hyS
      rcases List.mem_append.1 hyS with q | q
      · exact .inl (.inl q)
      · rcases List.mem_cons.1 q with q | q
        · exact .inl (.inr q)
        · have := hS y q; omega
  · exact .inr (h.done_cl x hx.1 hx.2 y hy)
theorem comp_reach (h : Inv adj N σ) {n : Nat} {A S : List Nat} {cs : List (Nat × Nat)} (hs : σ.stk = A ++ n :: S) (hc : σ.calls = (n, (adj n).length) :: cs) (hlow : σ.low n = σ.idx n) (x : Nat) (hx : x ∈ A ∨ x = n) : R adj x n ∧ R adj n x := by
  have htop : (n, (adj n).length) ∈ σ.calls := by rw [hc]; exact List.mem_cons_self
  have hord := h.c_ord
  rw [hc] at hord
  obtain ⟨hA, hS⟩ := seg_of h hs
  have hxS : x ∈ σ.stk := by rw [hs]; rcases hx with hx | rfl <;> simp [*]
  have hxi : σ.idx n ≤ σ.idx x := by rcases hx with hx | rfl; (have := hA x hx; omega); omega
  refine ⟨?_, h.down n _ htop x hxS hxi⟩
  obtain ⟨c, a, hca, hl, hr⟩ := h.up x hxS
  have hcS := h.c_stk c a hca
  have hP := hr (fun v => (v ∈ A ∨ v = n) ∨ (σ.idx v ≠ 0 ∧ σ.onS v = false)) (.inl hx) (comp_closed h hs hc hlow)
  rcases hP with (hP | rfl) | hP
  · rw [hc] at hca
    rcases List.mem_cons.1 hca with e | e
    · injection e with e1 e2; subst e1; exact hr
    · have := top_max hord e; have := hA c hP; omega
  · exact hr
  · have := (h.stk_on c).1 hcS; rw [hP.2] at this; cases this
/-- A component of more nodes than one: each lies on a cycle. -/
theorem comp_cyc (h : Inv adj N σ) {n : Nat} {A S : List Nat} {cs : List (Nat × Nat)} (hs : σ.stk = A ++ n :: S) (hc : σ.calls = (n, (adj n).length) :: cs) (hlow : σ.low n = σ.idx n) (hA : A ≠ []) (x : Nat) (hx : x ∈ A ∨ x = n) : Cyc adj x := by
  obtain ⟨hA1, _⟩ := seg_of h hs
  have other : ∃ y, (y ∈ A ∨ y = n) ∧ x ≠ y := by
    rcases hx with hx | rfl
    · exact ⟨n, .inr rfl, fun e => by have := hA1 x hx; subst e; omega⟩
    · cases A with
      | nil => exact absurd rfl hA
      | cons y A => exact ⟨y, .inl List.mem_cons_self, fun e => by have := hA1 y List.mem_cons_self; subst e; omega⟩
  obtain ⟨y, hy, hne⟩ := other
  have r1 := comp_reach h hs hc hlow x hx
  have r2 := comp_reach h hs hc hlow y hy
  rcases (r1.1.trans r2.2).first with e | ⟨m, hm, hr⟩
  · exact absurd e hne
  · exact ⟨m, hm, hr.trans (r2.1.trans r1.2)⟩
/-- A component of one node: no walk leads back to it. -/
theorem comp_one (h : Inv adj N σ) {n : Nat} {S : List Nat} {cs : List (Nat × Nat)} (hs : σ.stk = n :: S) (hc : σ.calls = (n, (adj n).length) :: cs) (hlow : σ.low n = σ.idx n) (hself : n ∉ adj n) : ¬ Cyc adj n := by
  rintro ⟨m, hm, hr⟩
  have hs' : σ.stk = [] ++ n :: S := hs
  have hn : σ.onS n = true := (h.stk_on n).1 (by rw [hs]; exact List.mem_cons_self)
  rcases comp_closed h hs' hc hlow n m (.inl (.inr rfl)) hm with (q | q) | q
  · cases q
  · subst q; exact hself hm
  · have := hr (fun v => σ.idx v ≠ 0 ∧ σ.onS v = false) q (fun x y hx hy => h.done_cl x hx.1 hx.2 y hy)
    rw [hn] at this; cases this.2

/-- The end of a component: it leaves the stack, and its frame the calls. -/
theorem pop_inv (h : Inv adj N σ) (n : Nat) (A S : List Nat) (cs : List (Nat × Nat)) (on' : Nat → Bool) (low' : Nat → Nat) (f' : Nat) (hs : σ.stk = A ++ n :: S) (hc : σ.calls = (n, (adj n).length) :: cs) (hlow : σ.low n = σ.idx n) (hself : n ∉ adj n)
    (hon : ∀ v, v ∈ S ↔ on' v = true) (hl : ∀ c a, (c, a) ∈ cs → low' c = σ.low c)
    (hf : (A = [] ∧ f' = σ.first) ∨ (A ≠ [] ∧ ∃ sm, (sm ∈ A ∨ sm = n) ∧ (∀ y, y ∈ A → sm ≤ y) ∧ sm ≤ n ∧ f' = Nat.min σ.first sm)) :
    Inv adj N { σ with stk := S, onS := on', calls := cs, low := low', first := f' } := by
  have htop : (n, (adj n).length) ∈ σ.calls := by rw [hc]; exact List.mem_cons_self
  have hord := h.c_ord
  rw [hc] at hord
  obtain ⟨hA, hS⟩ := seg_of h hs
  have hmem : ∀ {c x}, (c, x) ∈ cs → (c, x) ∈ σ.calls := fun h => by rw [hc]; exact List.mem_cons_of_mem _ h
  have hlt : ∀ {c x}, (c, x) ∈ cs → σ.idx c < σ.idx n := fun h => top_max hord h
  have hold : ∀ {c x}, (c, x) ∈ σ.calls → c = n ∨ (c, x) ∈ cs := fun {c x} hh => by
    rw [hc] at hh
    rcases List.mem_cons.1 hh with e | e
    · injection e with e1 e2; exact .inl e1
    · exact .inr e
  have inS : ∀ {v}, v ∈ S → v ∈ σ.stk := fun hv => by rw [hs]; simp [hv]
  have outS : ∀ {v}, v ∈ σ.stk → σ.idx v < σ.idx n → v ∈ S := fun {v} hv hlt => by
    rw [hs] at hv
    rcases List.mem_append.1 hv with q | q
    · have := hA v q; omega
    · rcases List.mem_cons.1 q with rfl | q
      · omega
      · exact q
  have parts : ∀ {v}, v ∈ σ.stk → v ∉ S → v ∈ A ∨ v = n := fun {v} hv hn => by
    rw [hs] at hv
    rcases List.mem_append.1 hv with q | q
    · exact .inl q
    · rcases List.mem_cons.1 q with q | q
      · exact .inr q
      · exact absurd q hn
  have nS : ∀ {v}, (v ∈ A ∨ v = n) → v ∉ S := fun {v} hv hq => by
    have := hS v hq
    rcases hv with hv | rfl
    · have := hA v hv; omega
    · omega
  have onF : ∀ {v}, v ∉ S → on' v = false := fun {v} hv => by
    cases e : on' v with
    | false => rfl
    | true => exact absurd ((hon v).2 e) hv
  -- done: it was, or it leaves now
  have doneC : ∀ {v}, σ.idx v ≠ 0 → on' v = false → (v ∈ A ∨ v = n) ∨ (σ.idx v ≠ 0 ∧ σ.onS v = false) := fun {v} h0 ho => by
    cases e : σ.onS v with
    | false => exact .inr ⟨h0, rfl⟩
    | true => exact .inl (parts ((h.stk_on v).2 e) (fun q => by have := (hon v).1 q; rw [ho] at this; cases this))
  have Cdone : ∀ {v}, (v ∈ A ∨ v = n) ∨ (σ.idx v ≠ 0 ∧ σ.onS v = false) → σ.idx v ≠ 0 ∧ on' v = false := fun {v} hv => by
    rcases hv with hv | hv
    · exact ⟨h.stk_pos v (by rw [hs]; rcases hv with hv | rfl <;> simp [*]), onF (nS hv)⟩
    · exact ⟨hv.1, onF (fun q => by have := (h.stk_on v).1 (inS q); rw [hv.2] at this; cases this)⟩
  have hfl : f' ≤ σ.first := by
    rcases hf with ⟨_, rfl⟩ | ⟨_, sm, _, _, _, rfl⟩
    · omega
    · exact Nat.min_le_left _ _
  refine ⟨hon, fun v hv => h.stk_pos v (inS hv), ?_, h.le_disc, h.idx_lt, h.count, fun c x hh => outS (h.c_stk c x (hmem hh)) (hlt hh), fun c x hh => h.c_le c x (hmem hh), (List.pairwise_cons.1 hord).2, ?_, ?_, fun c x hh => h.part c x (hmem hh), fun c x hh y hy => h.down c x (hmem hh) y (inS hy), ?_, ?_, ?_, ?_, ?_, ?_⟩
  · have ho := h.ord
    rw [hs, List.pairwise_append] at ho
    exact (List.pairwise_cons.1 ho.2.1).2
  · intro v h0 ho z hz
    exact Cdone (comp_closed h hs hc hlow v z (doneC h0 ho) hz)
  · intro v hv hn z hz
    refine h.fin v (inS hv) (fun a ha => ?_) z hz
    rcases hold ha with e | e
    · subst e; have := hS v hv; omega
    · exact hn a e
  · intro y hy
    obtain ⟨c, x, hx, m1, m2⟩ := h.up y (inS hy)
    rcases hold hx with e | e
    · subst e; have := hS y hy; omega
    · exact ⟨c, x, e, m1, m2⟩
  · intro c x hh
    obtain ⟨l1, u, hu, l2, l3⟩ := h.low_s c x (hmem hh)
    show low' c ≤ σ.idx c ∧ ∃ u, u ∈ S ∧ σ.idx u = low' c ∧ R adj c u
    rw [hl c x hh]
    exact ⟨l1, u, outS hu (by have := hlt hh; omega), l2, l3⟩
  · intro c x hh y hy hle hcond z hz ho
    show low' c ≤ σ.idx z
    rw [hl c x hh]
    refine h.low_c c x (hmem hh) y (inS hy) hle (fun c' a' h1 h2 => ?_) z hz ((h.stk_on z).1 (inS ((hon z).2 ho)))
    rcases hold h1 with e | e
    · subst e; exact hS y hy
    · exact hcond c' a' e h2
  · exact Nat.le_trans hfl h.f_le
  · intro y h0 ho hcy
    rcases doneC h0 ho with q | q
    · rcases hf with ⟨rfl, rfl⟩ | ⟨_, sm, _, s1, s2, rfl⟩
      · rcases q with q | rfl
        · cases q
        · exact absurd hcy (comp_one h hs hc hlow hself)
      · have : Nat.min σ.first sm ≤ sm := Nat.min_le_right _ _
        rcases q with q | rfl
        · have := s1 y q; exact Nat.le_trans ‹_› this
        · exact Nat.le_trans ‹_› s2
    · exact Nat.le_trans hfl (h.f_all y q.1 q.2 hcy)
  · intro hlt'
    rcases hf with ⟨_, rfl⟩ | ⟨hne, sm, hsm, _, _, rfl⟩
    · exact h.f_cyc hlt'
    · by_cases q : σ.first ≤ sm
      · have e : Nat.min σ.first sm = σ.first := Nat.min_eq_left q
        have hlt2 : Nat.min σ.first sm < N := hlt'
        rw [e] at hlt2
        show Cyc adj (Nat.min σ.first sm)
        rw [e]; exact h.f_cyc hlt2
      · have e : Nat.min σ.first sm = sm := Nat.min_eq_right (by omega)
        show Cyc adj (Nat.min σ.first sm)
        rw [e]; exact comp_cyc h hs hc hlow hne sm hsm

/-- With no call left the stack is empty. -/
theorem stk_nil (h : Inv adj N σ) (hc : σ.calls = []) : σ.stk = [] := by
  cases e : σ.stk with
  | nil => rfl
  | cons v l =>
    obtain ⟨c, a, hca, _⟩ := h.up v (by rw [e]; exact List.mem_cons_self)
    rw [hc] at hca; cases hca
/-- All found, no call left: 'first' is the least node on a cycle, or N. -/
theorem last_inv (h : Inv adj N σ) (hc : σ.calls = []) (hall : ∀ v, v < N → σ.idx v ≠ 0) : (∀ y, y < N → Cyc adj y → σ.first ≤ y) ∧ (σ.first = N ∨ (σ.first < N ∧ Cyc adj σ.first)) := by
  have hn := stk_nil h hc
  refine ⟨fun y hy hcy => h.f_all y (hall y hy) ?_ hcy, ?_⟩
  · cases e : σ.onS y with
    | false => rfl
    | true => have := (h.stk_on y).2 e; rw [hn] at this; cases this
  · have := h.f_le
    by_cases q : σ.first = N
    · exact .inl q
    · exact .inr ⟨by omega, h.f_cyc (by omega)⟩
end

/-- The state ahead of the first root. -/
def St.start (N : Nat) : St := { idx := fun _ => 0, low := fun _ => 0, onS := fun _ => false, stk := [], calls := [], disc := 0, first := N }
theorem start_inv (adj : Nat → List Nat) (N : Nat) : Inv adj N (St.start N) := by
  have hn : ∀ {v : Nat}, v ∈ ([] : List Nat) → False := fun h => by cases h
  have hp : ∀ {v : Nat × Nat}, v ∈ ([] : List (Nat × Nat)) → False := fun h => by cases h
  refine ⟨?_, fun v hv => (hn hv).elim, List.Pairwise.nil, fun v => Nat.le_refl _, fun v hv => absurd rfl hv, ?_, fun c a hc => (hp hc).elim, fun c a hc => (hp hc).elim, List.Pairwise.nil, fun v hv => absurd rfl hv, fun v hv => (hn hv).elim, fun c a hc => (hp hc).elim, fun c a hc => (hp hc).elim, fun v hv => (hn hv).elim, fun c a hc => (hp hc).elim, fun c a hc => (hp hc).elim, Nat.le_refl _, fun v hv => absurd rfl hv, fun h => absurd h (Nat.lt_irrefl _)⟩
  · intro v
    refine ⟨fun h => (hn h).elim, fun h => ?_⟩
    have : false = true := h
    cases this
  · show 0 + und (fun _ => 0) N = N
    unfold und
    have e : (List.range N).filter (fun _ => (0 : Nat) == 0) = List.range N := List.filter_eq_self.2 (fun _ _ => rfl)
    rw [e, List.length_range]; omega
end Go.Proofs.Qxb6603909a
