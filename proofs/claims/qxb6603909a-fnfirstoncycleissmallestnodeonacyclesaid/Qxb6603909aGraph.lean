/- The graph that the two lists spell, and what memory says of them. -/
import Derived.Test.Qxb6603909aArgs
import Derived.Test.Qxb6603909aTarjan3
namespace Go.Proofs.Qxb6603909a
open Go.RowKit
set_option linter.unusedVariables false

/-- The lists are a graph over n - 1 nodes. -/
structure Gr (n m : Nat) (s v : Nat → Nat) : Prop where
  n1 : 1 ≤ n
  nle : n ≤ 4096
  mle : m ≤ 65536
  mono : ∀ k, k + 1 < n → s k ≤ s (k + 1) ∧ s (k + 1) ≤ m
  arc : ∀ k j, k + 1 < n → s k ≤ j → j < s (k + 1) → v j + 1 < n ∧ v j ≠ k
/-- Memory holds them. -/
structure GW (n m bs bv : Nat) (av : Option Addr) (s v : Nat → Nat) (w : World) : Prop where
  cs : ∀ k, k + 1 < n → w.cell? ⟨bs, k, none⟩ = some (.int .i64 ((s k : Nat) : Int)) ∧ w.cell? ⟨bs, k + 1, none⟩ = some (.int .i64 ((s (k + 1) : Nat) : Int))
  cv : ∀ k j, k + 1 < n → s k ≤ j → j < s (k + 1) → w.cell? ⟨bv, j, none⟩ = some (.int .i32 ((v j : Nat) : Int))
  hav : 0 < m → av = some ⟨bv, 0, none⟩
theorem GW.below {n m bs bv : Nat} {av : Option Addr} {s v : Nat → Nat} {w w' : World} {B : Nat} (h : GW n m bs bv av s v w) (hb : Below B w w') (hB : w.heap.size ≤ B) : GW n m bs bv av s v w' := by
  refine ⟨fun k hk => ⟨?_, ?_⟩, fun k j hk h1 h2 => ?_, h.hav⟩
  · rw [hb.cell (Nat.lt_of_lt_of_le (World.block_lt_of_cell? _ _ (h.cs k hk).1) hB)]; exact (h.cs k hk).1
  · rw [hb.cell (Nat.lt_of_lt_of_le (World.block_lt_of_cell? _ _ (h.cs k hk).2) hB)]; exact (h.cs k hk).2
  · rw [hb.cell (Nat.lt_of_lt_of_le (World.block_lt_of_cell? _ _ (h.cv k j hk h1 h2)) hB)]; exact h.cv k j hk h1 h2

/-- The arcs out of node k. -/
def adjOf (n : Nat) (s v : Nat → Nat) (k : Nat) : List Nat := if k + 1 < n then (List.range (s (k + 1) - s k)).map (fun i => v (s k + i)) else []
theorem adj_at {n : Nat} {s v : Nat → Nat} {k j : Nat} (hk : k + 1 < n) (h1 : s k ≤ j) (h2 : j < s (k + 1)) : v j ∈ adjOf n s v k := by
  unfold adjOf; rw [if_pos hk, List.mem_map]
  exact ⟨j - s k, List.mem_range.2 (by omega), by rw [show s k + (j - s k) = j by omega]⟩
theorem adj_of {n : Nat} {s v : Nat → Nat} {k z : Nat} (h : z ∈ adjOf n s v k) : k + 1 < n ∧ ∃ j, s k ≤ j ∧ j < s (k + 1) ∧ z = v j := by
  unfold adjOf at h
  split at h
  · rename_i hk
    rw [List.mem_map] at h
    obtain ⟨i, hi, rfl⟩ := h
    have := List.mem_range.1 hi
    exact ⟨hk, s k + i, by omega, by omega, rfl⟩
  · cases h
theorem adj_len {n : Nat} {s v : Nat → Nat} {k : Nat} (hk : k + 1 < n) : (adjOf n s v k).length = s (k + 1) - s k := by
  unfold adjOf; rw [if_pos hk]; simp
theorem adj_get {n : Nat} {s v : Nat → Nat} {k a : Nat} (hk : k + 1 < n) (ha : a < s (k + 1) - s k) : (adjOf n s v k)[a]? = some (v (s k + a)) := by
  unfold adjOf; rw [if_pos hk]; simp [ha]
theorem adj_lt {n m : Nat} {s v : Nat → Nat} (hG : Gr n m s v) {k z : Nat} (h : z ∈ adjOf n s v k) : z + 1 < n ∧ z ≠ k := by
  obtain ⟨hk, j, h1, h2, rfl⟩ := adj_of h
  exact hG.arc k j hk h1 h2

/-- From the test's yes to the graph. -/
theorem graph_of {n m bs bv : Nat} {av : Option Addr} {f g : Nat → Int} {w : World} (hn : n ≤ 4096) (hm : m ≤ 65536) (h : OKG n m f g)
    (cs : ∀ j, j < n → w.cell? ⟨bs, j, none⟩ = some (.int .i64 (f j))) (hav : 0 < m → av = some ⟨bv, 0, none⟩) (cv : ∀ j, j < m → w.cell? ⟨bv, j, none⟩ = some (.int .i32 (g j))) :
    Gr n m (fun i => (f i).toNat) (fun j => (g j).toNat) ∧ GW n m bs bv av (fun i => (f i).toNat) (fun j => (g j).toNat) w := by
  obtain ⟨h1, h2⟩ := h
  refine ⟨⟨h1, hn, hm, fun k hk => ?_, fun k j hk a b => ?_⟩, ⟨fun k hk => ⟨?_, ?_⟩, fun k j hk a b => ?_, hav⟩⟩
  · obtain ⟨a1, a2, a3, _⟩ := h2 k hk
    show (f k).toNat ≤ (f (k + 1)).toNat ∧ (f (k + 1)).toNat ≤ m
    omega
  · obtain ⟨a1, a2, a3, a4⟩ := h2 k hk
    have a' : (f k).toNat ≤ j := a
    have b' : j < (f (k + 1)).toNat := b
    have := a4 j (by omega) (by omega)
    show (g j).toNat + 1 < n ∧ (g j).toNat ≠ k
    omega
  · obtain ⟨a1, a2, a3, _⟩ := h2 k hk
    rw [cs k (by omega)]
    show some (Value.int .i64 (f k)) = some (Value.int .i64 (((f k).toNat : Nat) : Int))
    rw [Int.toNat_of_nonneg a1]
  · obtain ⟨a1, a2, a3, _⟩ := h2 k hk
    rw [cs (k + 1) hk]
    show some (Value.int .i64 (f (k + 1))) = some (Value.int .i64 (((f (k + 1)).toNat : Nat) : Int))
    rw [Int.toNat_of_nonneg (by omega)]
  · obtain ⟨a1, a2, a3, a4⟩ := h2 k hk
    have a' : (f k).toNat ≤ j := a
    have b' : j < (f (k + 1)).toNat := b
    have := a4 j (by omega) (by omega)
    rw [cv j (by omega)]
    show some (Value.int .i32 (g j)) = some (Value.int .i32 (((g j).toNat : Nat) : Int))
    rw [Int.toNat_of_nonneg this.1]

/-- A list of different numbers below N is no longer than N. -/
theorem nodup_le : ∀ (N : Nat) (l : List Nat), l.Nodup → (∀ x, x ∈ l → x < N) → l.length ≤ N
  | 0, l, _, h => by
    cases l with
    | nil => simp
    | cons a l => exact absurd (h a List.mem_cons_self) (by omega)
  | N + 1, l, hn, h => by
    by_cases hm : N ∈ l
    · have h1 := nodup_le N (l.erase N) (hn.erase N) (fun x hx => by
        have h2 := h x (List.mem_of_mem_erase hx)
        have h3 : x ≠ N := fun e => by subst e; exact (List.Nodup.not_mem_erase hn) hx
        omega)
      have h2 := List.length_erase_of_mem hm
      omega
    · have := nodup_le N l hn (fun x hx => by
        have h2 := h x hx
        have h3 : x ≠ N := fun e => hm (e ▸ hx)
        omega)
      omega
end Go.Proofs.Qxb6603909a
