/- The law's function, walked. -/
import Derived.Test.Qxb6603909aFirst
namespace Go.Proofs.Qxb6603909a
open Go.RowKit
set_option linter.unusedVariables false

theorem RetI.one {adj : Nat → List Nat} {N r r' : Nat} (h : RetI adj N r) (h' : RetI adj N r') : r = r' := by
  obtain ⟨a1, a2, a3⟩ := h
  obtain ⟨b1, b2, b3⟩ := h'
  rcases Nat.lt_trichotomy r r' with e | e | e
  · exact absurd (a3 (by omega)) (b2 r e)
  · exact e
  · exact absurd (b3 (by omega)) (a2 r' e)

set_option maxHeartbeats 1000000 in
theorem zz_walk (bs bv n m : Nat) (av : Option Addr) (s v : Nat → Nat) (w : World) (hG : Gr n m s v) (hW : GW n m bs bv av s v w) (hav : (av = none ∧ m = 0) ∨ av = some ⟨bv, 0, none⟩) :
    Calls Try.prog 11 #[.slice (some ⟨bs, 0, none⟩) n n, .slice av m m] w fun e w' => RetS (adjOf n s v) (n - 1) e ∧ Below w.heap.size w w' := by
  have CT : Hid (Calls Try.prog 27 #[.agg #[.slice (some ⟨bs, 0, none⟩) n n, .slice av m m]] w fun e w' => RetS (adjOf n s v) (n - 1) e ∧ Below w.heap.size w w') := first_walk bs bv n m av s v w hG hW hav
  clear hG hW hav
  go_enter Try.func11, Try.ntmps11
  go_wp2_with fail
  refine Calls.mono CT.out ?_
  rintro e w1 ⟨⟨r, rfl, hr⟩, hb⟩
  have HR : Hid (RetS (adjOf n s v) (n - 1) (.returned (.int .i32 (r : Int))) ∧ Below w.heap.size w w1) := ⟨⟨r, rfl, hr⟩, hb⟩
  clear hr hb CT
  go_wp2_with fail
  go_ret
  exact HR.out

theorem args_nil (av : Option Addr) (m cv : Nat) (w : World) : Calls Try.prog 10 #[.slice none 0 0, .slice av m cv] w fun e w' => e = .returned (.bool false) ∧ w = w' := by
  go_enter Try.func10, Try.ntmps10
  go_wp2
  go_ret
  exact ⟨rfl, rfl⟩

def Row9 (m : Nat) (g : Nat → Int) (W : World) (e : Ending) (w' : World) : Prop :=
  ∃ av, e = .returned (.slice av m m) ∧ Below W.heap.size W w' ∧ ((av = none ∧ m = 0) ∨ av = some ⟨W.heap.size, 0, none⟩) ∧ ∀ j, j < m → w'.cell? ⟨W.heap.size, j, none⟩ = some (.int .i32 (g j))
def In9 (a : Option Addr) (m c : Nat) (g : Nat → Int) (w : World) : Prop := (a = none ∧ m = 0 ∧ c = 0) ∨ ∃ x, a = some x ∧ ∀ j, j < m → w.cell? (x.add j) = some (.int .i32 (g j))
theorem clone9_any (a : Option Addr) (m c : Nat) (g : Nat → Int) (w W : World) (h : In9 a m c g w) (hb : Below w.heap.size w W) (hm : m ≤ 1048576) : Calls Try.prog 9 #[.slice a m c] W (Row9 m g W) := by
  rcases h with ⟨rfl, rfl, rfl⟩ | ⟨x, rfl, hc⟩
  · refine (clone9_nil W).mono ?_
    rintro e w' ⟨rfl, rfl⟩
    exact ⟨none, rfl, Below.refl _ _, .inl ⟨rfl, rfl⟩, fun j hj => by omega⟩
  · refine (clone9_row x m c g W hm (fun j hj => by rw [hb.cell (World.block_lt_of_cell? _ _ (hc j hj))]; exact hc j hj)).mono ?_
    rintro e w' ⟨rfl, h1, h2⟩
    exact ⟨_, rfl, h1, .inr rfl, fun j hj => h2.cell hj⟩

theorem law_out (a b : Option Addr) (n c m d : Nat) (w : World) (h0 : n ≤ maxLen) (h1 : m ≤ maxLen)
    (h : 1048576 < (n : Int) ∨ ((n : Int) ≤ 1048576 ∧ 1048576 < (m : Int)) ∨ ((n : Int) ≤ 1048576 ∧ (m : Int) ≤ 1048576 ∧ 1048576 < (n : Int) + m) ∨ ((n : Int) + m ≤ 1048576 ∧ 4096 < (n : Int)) ∨ ((n : Int) + m ≤ 1048576 ∧ (n : Int) ≤ 4096 ∧ 65536 < (m : Int))) :
    Calls Try.prog 3 #[.slice a n c, .slice b m d] w fun e w' => e = .returned (.bool true) ∧ Below w.heap.size w w' := by
  unfold maxLen at h0 h1
  rcases h with h | ⟨h, h'⟩ | ⟨h, h', h''⟩ | ⟨h, h'⟩ | ⟨h, h', h''⟩
  all_goals
    go_enter Try.func3, Try.ntmps3
    go_wp2
    go_ret
    exact ⟨rfl, Below.refl _ _⟩

set_option maxHeartbeats 1000000 in
theorem law_nil (b : Option Addr) (m d : Nat) (g : Nat → Int) (w : World) (h9 : In9 b m d g w) (hm : (m : Int) ≤ 65536) :
    Calls Try.prog 3 #[.slice none 0 0, .slice b m d] w fun e w' => e = .returned (.bool true) ∧ Below w.heap.size w w' := by
  have H9 : Hid (In9 b m d g w) := h9
  clear h9
  go_enter Try.func3, Try.ntmps3
  go_wp2_with fail
  refine (bytes7 none b 0 m 0 d w (by omega)).mono ?_
  rintro e w1 ⟨rfl, rfl⟩
  go_wp2_with fail
  refine (clone8_nil w).mono ?_
  rintro e w1 ⟨rfl, rfl⟩
  go_wp2_with fail
  refine (clone9_any b m d g w w H9.out (Below.refl _ _) (by omega)).mono ?_
  rintro e w1 ⟨av, rfl, hb, _, _⟩
  have HB : Hid (Below w.heap.size w w1) := hb
  clear hb
  go_wp2_with fail
  refine (args_nil av m m w1).mono ?_
  rintro e w2 ⟨rfl, rfl⟩
  go_wp2_with fail
  go_ret
  exact ⟨rfl, HB.out⟩

set_option maxHeartbeats 1000000 in
theorem law_row (x : Addr) (n c : Nat) (f : Nat → Int) (b : Option Addr) (m d : Nat) (g : Nat → Int) (w : World) (hn : (n : Int) ≤ 4096) (hm : (m : Int) ≤ 65536) (h8 : ∀ j, j < n → w.cell? (x.add j) = some (.int .i64 (f j))) (h9 : In9 b m d g w)
    (hf : ∀ j, -9223372036854775808 ≤ f j ∧ f j ≤ 9223372036854775807) (hg : ∀ j, -2147483648 ≤ g j ∧ g j ≤ 2147483647) :
    Calls Try.prog 3 #[.slice (some x) n c, .slice b m d] w fun e w' => e = .returned (.bool true) ∧ Below w.heap.size w w' := by
  have H8 : Hid (∀ j, j < n → w.cell? (x.add j) = some (.int .i64 (f j))) := h8
  have H9 : Hid (In9 b m d g w) := h9
  have HF : Hid (∀ j, -9223372036854775808 ≤ f j ∧ f j ≤ 9223372036854775807) := hf
  have HG : Hid (∀ j, -2147483648 ≤ g j ∧ g j ≤ 2147483647) := hg
  clear h8 h9 hf hg
  go_enter Try.func3, Try.ntmps3
  go_wp2_with fail
  refine (bytes7 (some x) b n m c d w (by omega)).mono ?_
  rintro e w1 ⟨rfl, rfl⟩
  go_wp2_with fail
  refine (clone8_row x n c f w (by omega) H8.out).mono ?_
  rintro e w1 ⟨rfl, hb1, hr1⟩
  have HB1 : Hid (Below w.heap.size w w1) := hb1
  have HR1 : Hid (w1.rowIs w.heap.size 3 n (fun j => .int .i64 (f j))) := hr1
  clear hb1 hr1
  go_wp2_with fail
  refine (clone9_any b m d g w w1 H9.out HB1.out (by omega)).mono ?_
  rintro e w2 ⟨av, rfl, hb2, hav, hcv⟩
  have HB2 : Hid (Below w1.heap.size w1 w2) := hb2
  have HAV : Hid ((av = none ∧ m = 0) ∨ av = some ⟨w1.heap.size, 0, none⟩) := hav
  have HCV : Hid (∀ j, j < m → w2.cell? ⟨w1.heap.size, j, none⟩ = some (.int .i32 (g j))) := hcv
  have HAV2 : Hid (0 < m → av = some ⟨w1.heap.size, 0, none⟩) := fun h0 => by
    rcases hav with ⟨_, h⟩ | h
    · omega
    · exact h
  have HCS : Hid (∀ j, j < n → w2.cell? ⟨w.heap.size, j, none⟩ = some (.int .i64 (f j))) := fun j hj => by
    rw [hb2.cell (World.block_lt_of_cell? _ _ (HR1.out.cell hj))]; exact HR1.out.cell hj
  have HBW : Hid (Below w.heap.size w w2) := HB1.out.trans (hb2.mono HB1.out.size)
  clear hb2 hav hcv HB1 HR1 HB2
  go_wp2_with fail
  refine (argsOK w.heap.size w1.heap.size n m n m av f g w2 (by omega) (by omega) HCS.out HAV2.out HCV.out HF.out HG.out).mono ?_
  rintro e w3 ⟨⟨bb, rfl, hok⟩, rfl⟩
  cases bb with
  | false =>
    clear hok
    go_wp2_with fail
    go_ret
    exact ⟨rfl, HBW.out⟩
  | true =>
    obtain ⟨hGr, hGW⟩ := graph_of (by omega) (by omega) (hok rfl) HCS.out HAV2.out HCV.out
    have HGR := (show Hid _ from hGr)
    have HGW := (show Hid _ from hGW)
    clear hok hGr hGW HCS HCV
    go_wp2_with fail
    refine (zz_walk w.heap.size w1.heap.size n m av _ _ w2 HGR.out HGW.out HAV.out).mono ?_
    rintro e w4 ⟨⟨r, rfl, hr⟩, hb4⟩
    have HR := (show Hid _ from hr)
    have HB4 : Hid (Below w.heap.size w w4) := HBW.out.trans (hb4.mono HBW.out.size)
    have HGW4 := (show Hid _ from HGW.out.below hb4 (Nat.le_refl _))
    clear hr hb4 HGW
    go_wp2_with fail
    refine (smallest w.heap.size w1.heap.size n m n m av _ _ w4 HGR.out HGW4.out).mono ?_
    rintro e w5 ⟨⟨r', rfl, hr'⟩, hb5⟩
    have hrr : r = r' := RetI.one HR.out hr'
    subst hrr
    have HB5 : Hid (Below w.heap.size w w5) := HB4.out.trans (hb5.mono HB4.out.size)
    clear hr' hb5 HR
    go_wp2_with fail
    go_ret
    exact ⟨rfl, HB5.out⟩
end Go.Proofs.Qxb6603909a
