/- lists.of, walked. -/
import Derived.Test.Qxb6603909aVisit
namespace Go.Proofs.Qxb6603909a
open Go.RowKit
set_option linter.unusedVariables false

def OfRet (bv lo hi : Nat) (e : Ending) : Prop := ∃ a c, e = .returned (.slice a (hi - lo) c) ∧ (lo < hi → a = some ⟨bv, lo, none⟩)

set_option maxHeartbeats 1000000 in
theorem of_some (bs bv n m : Nat) (s v : Nat → Nat) (k : Nat) (w : World) (hG : Gr n m s v) (hW : GW n m bs bv (some ⟨bv, 0, none⟩) s v w) (hk : k + 1 < n) :
    Calls Try.prog 36 #[.agg #[.slice (some ⟨bs, 0, none⟩) n n, .slice (some ⟨bv, 0, none⟩) m m], .int .i32 k] w fun e w' => OfRet bv (s k) (s (k + 1)) e ∧ Below w.heap.size w w' := by
  have hnle := hG.nle
  have hmle := hG.mle
  have hm := hG.mono k hk
  obtain ⟨c1, c2⟩ := hW.cs k hk
  have hne : bs < w.heap.size := World.block_lt_of_cell? _ _ c1
  obtain ⟨lo, hlo⟩ : ∃ lo, s k = lo := ⟨_, rfl⟩
  obtain ⟨hi, hhi⟩ : ∃ hi, s (k + 1) = hi := ⟨_, rfl⟩
  rw [hlo, hhi] at hm ⊢
  rw [hlo] at c1
  rw [hhi] at c2
  have hki : (k : Int) + 1 < (n : Int) := by omega
  clear hW hG hlo hhi
  go_enter Try.func36, Try.ntmps36
  go_wp2_with fail
  go_quiet (fail)
  go_wp2_with fail
  all_goals go_ret
  all_goals refine ⟨⟨_, _, rfl, fun h => ?_⟩, below_drewN ((Below.refl _ _).alloc (Nat.le_refl _) _) _⟩
  · omega
  · rfl
theorem of_none (bs bv n : Nat) (s v : Nat → Nat) (k : Nat) (w : World) (hG : Gr n 0 s v) (hW : GW n 0 bs bv none s v w) (hk : k + 1 < n) :
    Calls Try.prog 36 #[.agg #[.slice (some ⟨bs, 0, none⟩) n n, .slice none 0 0], .int .i32 k] w fun e w' => OfRet bv (s k) (s (k + 1)) e ∧ Below w.heap.size w w' := by
  have hnle := hG.nle
  have hm := hG.mono k hk
  obtain ⟨c1, c2⟩ := hW.cs k hk
  have hne : bs < w.heap.size := World.block_lt_of_cell? _ _ c1
  have hlo : s k = 0 := by omega
  have hhi : s (k + 1) = 0 := by omega
  rw [hlo, hhi]
  rw [hlo] at c1
  rw [hhi] at c2
  have hki : (k : Int) + 1 < (n : Int) := by omega
  have HR : Hid (OfRet bv 0 0 (.returned (.slice none 0 0))) := ⟨_, _, rfl, fun h => by omega⟩
  clear hW hG hlo hhi hm
  go_enter Try.func36, Try.ntmps36
  go_wp2_with fail
  go_quiet (fail)
  go_wp2_with fail
  go_ret
  refine ⟨HR.out, ?_⟩
  first
    | exact (below_drewN ((Below.refl _ _).alloc (Nat.le_refl _) _) _)
    | exact ((Below.refl _ _).alloc (Nat.le_refl _) _).drew
theorem of_walk (bs bv n m : Nat) (av : Option Addr) (s v : Nat → Nat) (k : Nat) (w : World) (hG : Gr n m s v) (hW : GW n m bs bv av s v w) (hav : (av = none ∧ m = 0) ∨ av = some ⟨bv, 0, none⟩) (hk : k + 1 < n) :
    Calls Try.prog 36 #[.agg #[.slice (some ⟨bs, 0, none⟩) n n, .slice av m m], .int .i32 k] w fun e w' => OfRet bv (s k) (s (k + 1)) e ∧ Below w.heap.size w w' := by
  rcases hav with ⟨rfl, rfl⟩ | rfl
  · exact of_none bs bv n s v k w hG hW hk
  · exact of_some bs bv n m s v k w hG hW hk

section
variable {M N : Nat} {sa va : Value} {w0 wr : World} {idx low : Nat → Nat} {onS : Nat → Bool} {disc : Nat} {sv cv : Value}
theorem MemR.after (h : MemR M N sa va w0 wr idx low onS disc sv cv) {w1 : World} (hb : Below wr.heap.size wr w1) : MemR M N sa va w0 w1 idx low onS disc sv cv := by
  have hs := h.sz
  exact ⟨fun k hk => (h.rows k hk).of_block (hb.block (N + k) (by omega)), h.bel.trans (hb.mono (by omega)), by have := hb.size; omega⟩
theorem own_after {w w1 : World} {b : Nat} {e : TypeId} {s : Nat} {v : Value} {n : Nat} {xs : List Value} (h : w.ownsRow b e s v n xs) (hb : Below w.heap.size w w1) : w1.ownsRow b e s v n xs := by
  refine ⟨h.1, ?_⟩
  rcases h.2 with h1 | ⟨g, cap, cur, h1, h2, h3, h4⟩
  · exact .inl h1
  · exact .inr ⟨g, cap, cur, h1, h2, by rw [hb.block g (lt_of_block h3)]; exact h3, h4⟩
end
end Go.Proofs.Qxb6603909a
