/- Plain laws: Tarjan's components: an arc to a found node, a frame's end, a component's end, the start and the end. No Go in sight. -/
import Derived.Test.Qxb6603909aTarjan
namespace Go.Proofs.Qxb6603909a

theorem top_max {idx : Nat → Nat} {n a : Nat} {cs : List (Nat × Nat)} (h : ((n, a) :: cs).Pairwise (fun x y => idx y.1 < idx x.1)) {c b : Nat} (hc : (c, b) ∈ cs) : idx c < idx n := (List.pairwise_cons.1 h).1 (c, b) hc
theorem take_next {α : Type} (l : List α) (a : Nat) (m : α) (h : l[a]? = some m) : l.take (a + 1) = l.take a ++ [m] := by
  have hl : a < l.length := (List.getElem?_eq_some_iff.1 h).1
  have he : l[a] = m := (List.getElem?_eq_some_iff.1 h).2
  rw [List.take_succ_eq_append_getElem hl, he]

/-- The step over an arc to a node that is found. -/
theorem arc_inv {adj : Nat → List Nat} {N : Nat} {σ : St} (h : Inv adj N σ) (n a m L : Nat) (cs : List (Nat × Nat)) (hc : σ.calls = (n, a) :: cs) (ha : (adj n)[a]? = some m) (h0 : σ.idx m ≠ 0)
    (hL : L ≤ σ.low n) (hL2 : L = σ.low n ∨ (m ∈ σ.stk ∧ L = σ.idx m)) (hL3 : σ.onS m = true → L ≤ σ.idx m) :
    Inv adj N { σ with calls := (n, a + 1) :: cs, low := upd σ.low n L } := by
  have hmem : m ∈ adj n := List.mem_of_getElem? ha
  have htop : (n, a) ∈ σ.calls := by rw [hc]; exact List.mem_cons_self
  have hcs : ∀ {c b}, (c, b) ∈ cs → (c, b) ∈ σ.calls := fun h => by rw [hc]; exact List.mem_cons_of_mem _ h
  have hord := h.c_ord
  rw [hc] at hord
  have hlt : ∀ {c b}, (c, b) ∈ cs → σ.idx c < σ.idx n := fun h => top_max hord h
  have hne : ∀ {c b}, (c, b) ∈ cs → c ≠ n := fun h e => by have := hlt h; rw [e] at this; omega
  -- every new frame comes of an old one
  have back : ∀ {c b}, (c, b) ∈ (n, a + 1) :: cs → ∃ b', (c, b') ∈ σ.calls ∧ ((c = n ∧ b = a + 1 ∧ b' = a) ∨ (c ≠ n ∧ b' = b ∧ (c, b) ∈ cs)) := fun {c b} hh => by
    rcases List.mem_cons.1 hh with e | e
    · injection e with e1 e2; subst e1; subst e2; exact ⟨a, htop, .inl ⟨rfl, rfl, rfl⟩⟩
    · exact ⟨b, hcs e, .inr ⟨hne e, rfl, e⟩⟩
  have forth : ∀ {c b}, (c, b) ∈ σ.calls → ∃ b', (c, b') ∈ (n, a + 1) :: cs := fun {c b} hh => by
    rw [hc] at hh
    rcases List.mem_cons.1 hh with e | e
    · injection e with e1 e2; subst e1; exact ⟨_, List.mem_cons_self⟩
    · exact ⟨b, List.mem_cons_of_mem _ e⟩
  have hlen : a + 1 ≤ (adj n).length := (List.getElem?_eq_some_iff.1 ha).1
  refine ⟨h.stk_on, h.stk_pos, h.ord, h.le_disc, h.idx_lt, h.count, ?_, ?_, ?_, h.done_cl, ?_, ?_, ?_, ?_, ?_, ?_, h.f_le, h.f_all, h.f_cyc⟩
  · intro c b hh; obtain ⟨b', hb, _⟩ := back hh; exact h.c_stk c b' hb
  · intro c b hh
    obtain ⟨b', hb, ⟨rfl, rfl, _⟩ | ⟨_, rfl, _⟩⟩ := back hh
    · exact hlen
    · exact h.c_le c b' hb
  · show ((n, a + 1) :: cs).Pairwise _
    rw [List.pairwise_cons] at hord ⊢
    exact hord
  · intro v hv hn z hz
    exact h.fin v hv (fun b hb => by obtain ⟨b', hb'⟩ := forth hb; exact hn b' hb') z hz
  · intro c b hh z hz
    obtain ⟨b', hb, ⟨rfl, rfl, rfl⟩ | ⟨_, rfl, _⟩⟩ := back hh
    · rw [take_next _ _ _ ha] at hz
      rcases List.mem_append.1 hz with hz | hz
      · exact h.part c b' hb z hz
      · rw [List.mem_singleton] at hz; subst hz; exact h0
    · exact h.part c b' hb z hz
  · intro c b hh y hy hle; obtain ⟨b', hb, _⟩ := back hh; exact h.down c b' hb y hy hle
  · intro y hy
    obtain ⟨c, b, hb, hl, hr⟩ := h.up y hy
    obtain ⟨b', hb'⟩ := forth hb
    exact ⟨c, b', hb', hl, hr⟩
  · intro c b hh
    show upd σ.low n L c ≤ σ.idx c ∧ ∃ u, u ∈ σ.stk ∧ σ.idx u = upd σ.low n L c ∧ R adj c u
    obtain ⟨b', hb, ⟨rfl, rfl, rfl⟩ | ⟨hcn, rfl, _⟩⟩ := back hh
    · obtain ⟨l1, u, hu, l2, l3⟩ := h.low_s c b' hb
      rw [upd_same]
      refine ⟨by omega, ?_⟩
      rcases hL2 with rfl | ⟨hm, rfl⟩
      · exact ⟨u, hu, l2, l3⟩
      · exact ⟨m, hm, rfl, R.step hmem⟩
    · rw [upd_ne _ _ _ hcn]; exact h.low_s c b' hb
  · intro c b hh y hy hle hcond z hz ho
    show upd σ.low n L c ≤ σ.idx z
    have hcond' : ∀ c' a', (c', a') ∈ σ.calls → σ.idx c < σ.idx c' → σ.idx y < σ.idx c' := fun c' a' h1 h2 => by
      obtain ⟨b', hb'⟩ := forth h1; exact hcond c' b' hb' h2
    obtain ⟨b', hb, ⟨rfl, rfl, rfl⟩ | ⟨hcn, rfl, _⟩⟩ := back hh
    · rw [upd_same]
      by_cases e : y = c
      · rw [if_pos e, take_next _ _ _ ha] at hz
        rcases List.mem_append.1 hz with hz | hz
        · have := h.low_c c b' hb y hy hle hcond' z (by rw [if_pos e]; exact hz) ho; omega
        · rw [List.mem_singleton] at hz; subst hz; exact hL3 ho
      · rw [if_neg e] at hz
        have := h.low_c c b' hb y hy hle hcond' z (by rw [if_neg e]; exact hz) ho; omega
    · rw [upd_ne _ _ _ hcn]; exact h.low_c c b' hb y hy hle hcond' z hz ho

/-- A frame whose arcs are through and whose low lies below it is not the last. -/
theorem below_top {adj : Nat → List Nat} {N : Nat} {σ : St} (h : Inv adj N σ) (n a : Nat) (cs : List (Nat × Nat)) (hc : σ.calls = (n, a) :: cs) (hlow : σ.low n ≠ σ.idx n) :
    ∃ u c b, u ∈ σ.stk ∧ σ.idx u = σ.low n ∧ R adj n u ∧ (c, b) ∈ cs ∧ σ.idx c ≤ σ.idx u ∧ R adj u c := by
  have htop : (n, a) ∈ σ.calls := by rw [hc]; exact List.mem_cons_self
  obtain ⟨l1, u, hu, l2, l3⟩ := h.low_s n a htop
  obtain ⟨c, b, hb, m1, m2⟩ := h.up u hu
  rw [hc] at hb
  rcases List.mem_cons.1 hb with e | e
  · injection e with e1 e2; subst e1; omega
  · exact ⟨u, c, b, hu, l2, l3, e, m1, m2⟩

/-- The end of a frame that is no component's root. -/
theorem end_inv {adj : Nat → List Nat} {N : Nat} {σ : St} (h : Inv adj N σ) (n p b : Nat) (cs : List (Nat × Nat)) (hc : σ.calls = (n, (adj n).length) :: (p, b) :: cs) (hlow : σ.low n ≠ σ.idx n) :
    Inv adj N { σ with calls := (p, b) :: cs, low := upd σ.low p (Nat.min (σ.low p) (σ.low n)) } := by
  have htop : (n, (adj n).length) ∈ σ.calls := by rw [hc]; exact List.mem_cons_self
  have hmem : ∀ {c x}, (c, x) ∈ (p, b) :: cs → (c, x) ∈ σ.calls := fun h => by rw [hc]; exact List.mem_cons_of_mem _ h
  have hord := h.c_ord
  rw [hc] at hord
  have hlt : ∀ {c x}, (c, x) ∈ (p, b) :: cs → σ.idx c < σ.idx n := fun h => top_max hord h
  have hord2 := (List.pairwise_cons.1 hord).2
  have hltp : ∀ {c x}, (c, x) ∈ cs → σ.idx c < σ.idx p := fun h => top_max hord2 h
  have hpn := hlt (c := p) (x := b) List.mem_cons_self
  have hold : ∀ {c x}, (c, x) ∈ σ.calls → c = n ∨ (c, x) ∈ (p, b) :: cs := fun {c x} hh => by
    rw [hc] at hh
    rcases List.mem_cons.1 hh with e | e
    · injection e with e1 e2; exact .inl e1
    · exact .inr e
  obtain ⟨u0, c0, b0, hu0, k1, k2, k3, k4, k5⟩ := below_top h n _ _ hc hlow
  have hln := (h.low_s n _ htop).1
  have nS := h.c_stk n _ htop
  refine ⟨h.stk_on, h.stk_pos, h.ord, h.le_disc, h.idx_lt, h.count, fun c x hh => h.c_stk c x (hmem hh), fun c x hh => h.c_le c x (hmem hh), hord2, h.done_cl, ?_, fun c x hh => h.part c x (hmem hh), fun c x hh => h.down c x (hmem hh), ?_, ?_, ?_, h.f_le, h.f_all, h.f_cyc⟩
  · intro v hv hn z hz
    by_cases e : v = n
    · subst e
      exact h.part v _ htop z (by rw [List.take_length]; exact hz)
    · refine h.fin v hv (fun x hx => ?_) z hz
      rcases hold hx with e2 | e2
      · exact e e2
      · exact hn x e2
  · intro y hy
    obtain ⟨c, x, hx, m1, m2⟩ := h.up y hy
    rcases hold hx with e | e
    · subst e
      exact ⟨c0, b0, k3, by show σ.idx c0 ≤ σ.idx y; omega, (m2.trans k2).trans k5⟩
    · exact ⟨c, x, e, m1, m2⟩
  · intro c x hh
    show upd σ.low p _ c ≤ σ.idx c ∧ ∃ u, u ∈ σ.stk ∧ σ.idx u = upd σ.low p _ c ∧ R adj c u
    obtain ⟨l1, u, hu, l2, l3⟩ := h.low_s c x (hmem hh)
    by_cases e : c = p
    · subst e
      rw [upd_same]
      by_cases q : σ.low c ≤ σ.low n
      · rw [show Nat.min (σ.low c) (σ.low n) = σ.low c from Nat.min_eq_left q]
        exact ⟨l1, u, hu, l2, l3⟩
      · rw [show Nat.min (σ.low c) (σ.low n) = σ.low n from Nat.min_eq_right (by omega)]
        exact ⟨by omega, u0, hu0, k1, (h.down c x (hmem hh) n nS (by omega)).trans k2⟩
    · rw [upd_ne _ _ _ e]; exact ⟨l1, u, hu, l2, l3⟩
  · intro c x hh y hy hle hcond z hz ho
    show upd σ.low p _ c ≤ σ.idx z
    have m1 : Nat.min (σ.low p) (σ.low n) ≤ σ.low p := Nat.min_le_left _ _
    have m2 : Nat.min (σ.low p) (σ.low n) ≤ σ.low n := Nat.min_le_right _ _
    by_cases e : c = p
    · subst e
      rw [upd_same]
      by_cases q : σ.idx y < σ.idx n
      · have := h.low_c c x (hmem hh) y hy hle (fun c' a' h1 h2 => by
          rcases hold h1 with e | e
          · subst e; exact q
          · exact hcond c' a' e h2) z hz ho
        omega
      · have hyc : y ≠ c := fun e => by subst e; omega
        rw [if_neg hyc] at hz
        have := h.low_c n _ htop y hy (by omega) (fun c' a' h1 h2 => by
          rcases hold h1 with e | e
          · subst e; omega
          · have := hlt e; omega) z (by
            by_cases e : y = n
            · rw [if_pos e, List.take_length]; subst e; exact hz
            · rw [if_neg e]; exact hz) ho
        omega
    · rw [upd_ne _ _ _ e]
      have hcs : (c, x) ∈ cs := by
        rcases List.mem_cons.1 hh with e2 | e2
        · injection e2 with e3 e4; exact absurd e3 e
        · exact e2
      have hyp := hcond p b List.mem_cons_self (hltp hcs)
      have hyp' : σ.idx y < σ.idx p := hyp
      exact h.low_c c x (hmem hh) y hy hle (fun c' a' h1 h2 => by
        rcases hold h1 with e | e
        · subst e; omega
        · exact hcond c' a' e h2) z hz ho
end Go.Proofs.Qxb6603909a
