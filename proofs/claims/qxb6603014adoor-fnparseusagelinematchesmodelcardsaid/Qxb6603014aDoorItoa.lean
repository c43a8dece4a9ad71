/- zzItoa, walked. -/
import Derived.Test.Qxb6603014aDoorUsage
import Derived.Test.Qxb6603014aDoorItoaPlain
import Derived.Laws.BitsAllLaws
import Derived.Laws.IdiomStrings
namespace Go.Proofs.Qxb6603014aDoor
open Go.RowKit
set_option linter.unusedVariables false

/-- '^uint64(n) + 1' at a negative n. -/
theorem neg_u64 (n : Int) (h0 : n < 0) (h1 : -9223372036854775808 ≤ n) : IntKind.u64.wrap (bits .xor .u64 IntKind.u64.max (IntKind.u64.wrap n) + 1) = ((mag n : Nat) : Int) := by
  have e1 : IntKind.u64.wrap n = n + 18446744073709551616 := by simp only [IntKind.wrap, IntKind.bits, IntKind.signed]; simp; omega
  have e2 : IntKind.u64.max = 18446744073709551615 := rfl
  rw [e1, e2, u64_xor _ _ (by omega) (by omega) (by omega) (by omega)]
  have e3 : (18446744073709551615 : Int).toNat ^^^ (n + 18446744073709551616).toNat = 18446744073709551615 - (n + 18446744073709551616).toNat := by
    have hx : (n + 18446744073709551616).toNat < 2 ^ 64 := by omega
    have hb := BitVec.toNat_not (x := BitVec.ofNat 64 (n + 18446744073709551616).toNat)
    rw [← BitVec.xor_allOnes, BitVec.toNat_xor, BitVec.toNat_allOnes, BitVec.toNat_ofNat, Nat.mod_eq_of_lt hx] at hb
    rw [Nat.xor_comm]
    exact hb
  rw [e3]
  unfold mag
  rw [IntWalk.u64_in _ (by omega)]
  omega

/-- What the loop keeps of the twenty bytes: k zeros, then the digits ds. -/
def Buf (B : Nat) (wr : World) (k : Nat) (ds : List UInt8) : Prop :=
  (∀ j, j < k → wr.cell? ⟨B, j, none⟩ = some (.int .u8 0)) ∧ (∀ j (hj : j < ds.length), wr.cell? ⟨B, k + j, none⟩ = some (.int .u8 (ds[j].toNat : Int))) ∧ (∀ j, wr.frozen? ⟨B, j, none⟩ = false)

theorem Buf.put {B : Nat} {wr : World} {k : Nat} {ds : List UInt8} (h : Buf B wr (k + 1) ds) (x : Nat) : Buf B (wr.setCell ⟨B, k, none⟩ (.int .u8 (48 + (x : Int) % 10))) k (dig x :: ds) := by
  obtain ⟨h1, h2, h3⟩ := h
  refine ⟨fun j hj => ?_, fun j hj => ?_, fun j => ?_⟩
  · rw [World.cell?_setCell_other _ _ _ _ (by intro e; injection e with _ e2; omega)]
    exact h1 j (by omega)
  · cases j with
    | zero =>
      rw [Nat.add_zero, World.cell?_setCell_same _ _ _ (h1 k (by omega))]
      have := dig_toNat x
      simp only [List.getElem_cons_zero, this]
      congr 2
    | succ j =>
      rw [World.cell?_setCell_other _ _ _ _ (by intro e; injection e with _ e2; omega)]
      have := h2 j (by simpa using hj)
      rw [show k + (j + 1) = k + 1 + j by omega, this]
      rfl
  · rw [World.frozen?_setCell]; exact h3 j

theorem digs_step (f u : Nat) (acc : List UInt8) (h : ¬ u / 10 = 0) : digs (f + 1) u acc = digs f (u / 10) (dig u :: acc) := by rw [digs, if_neg h]
theorem digs_last (f u : Nat) (acc : List UInt8) (h : u / 10 = 0) : digs (f + 1) u acc = dig u :: acc := by rw [digs, if_pos h]
theorem pow_step (x k : Nat) (h : x < 10 ^ (k + 1)) (hx : ¬ x / 10 = 0) : 1 ≤ k ∧ x / 10 < 10 ^ k := by
  have hp : x / 10 < 10 ^ k := by rw [Nat.div_lt_iff_lt_mul (by omega)]; rw [← Nat.pow_succ]; exact h
  refine ⟨?_, hp⟩
  cases k with
  | zero => simp at hp; omega
  | succ k => omega

/-- 'buf[k:]'. -/
theorem slice_from (B k : Nat) (hk : k < 20) (W : World) :
    (Instr.sliceAt 32 (.pointer (some ⟨B, 0, none⟩)) (some (.int .i64 (k : Int))) none none).run Tryd.prog W = .ok (.slice (some ⟨B, k, none⟩) (20 - k) (20 - k)) W := by
  have hu : Tryd.prog.underlying 32 = some (.array (Tryd.prog.arrayLen 32) (Tryd.prog.elem 32)) := by kernel_rfl
  have hl : Tryd.prog.arrayLen 32 = 20 := by kernel_rfl
  have he : Tryd.prog.elem 32 = 5 := by kernel_rfl
  rw [run_sliceAt_array_l W 32 ⟨B, 0, none⟩ hu .i64 (k : Int) (by omega) (by rw [hl]; omega), hl, he, Tryd.sizeOf5 W]
  simp only [Result.andThen, slicedAt, Int.toNat_natCast, Nat.mul_one]
  rw [if_neg (by omega)]
  simp [Addr.add]
  omega
/-- 'string(buf[k:])'. -/
theorem conv_buf (B k : Nat) (W : World) (ds : List UInt8) (h : Buf B W k ds) (hl : k + ds.length = 20) :
    (convert 33 9 (.slice (some ⟨B, k, none⟩) (20 - k) (20 - k))).run Tryd.prog W = .ok (.string ⟨ds.toArray⟩) W := by
  rw [show 20 - k = ds.length by omega]
  refine run_convert_bytes_back W 33 9 5 ⟨B, k, none⟩ ds.length ds Tryd.underlying33 Tryd.underlying5 Tryd.underlying9 fun j hj => ?_
  have : (⟨B, k, none⟩ : Addr).add j = ⟨B, k + j, none⟩ := by simp [Addr.add]
  rw [this]
  exact h.2.1 j hj

theorem zero_heap (w : World) (o : Obj) : (w.alloc o).heap[w.heap.size]? = some o := by
  show (w.heap.push o)[w.heap.size]? = _
  rw [Array.getElem?_push, if_pos rfl]
theorem zero_cells (w : World) (j : Nat) (hj : j < 20) : (w.alloc (.cells #[.int .u8 0, .int .u8 0, .int .u8 0, .int .u8 0, .int .u8 0, .int .u8 0, .int .u8 0, .int .u8 0, .int .u8 0, .int .u8 0, .int .u8 0, .int .u8 0, .int .u8 0, .int .u8 0, .int .u8 0, .int .u8 0, .int .u8 0, .int .u8 0, .int .u8 0, .int .u8 0] 32)).cell? ⟨w.heap.size, j, none⟩ = some (.int .u8 0) := by
  simp only [World.cell?, zero_heap]
  match j, hj with
  | 0, _ | 1, _ | 2, _ | 3, _ | 4, _ | 5, _ | 6, _ | 7, _ | 8, _ | 9, _ | 10, _ | 11, _ | 12, _ | 13, _ | 14, _ | 15, _ | 16, _ | 17, _ | 18, _ | 19, _ => rfl
  | (j + 20), h => exact absurd h (by omega)
theorem zero_frozen (w : World) (j : Nat) : (w.alloc (.cells #[.int .u8 0, .int .u8 0, .int .u8 0, .int .u8 0, .int .u8 0, .int .u8 0, .int .u8 0, .int .u8 0, .int .u8 0, .int .u8 0, .int .u8 0, .int .u8 0, .int .u8 0, .int .u8 0, .int .u8 0, .int .u8 0, .int .u8 0, .int .u8 0, .int .u8 0, .int .u8 0] 32)).frozen? ⟨w.heap.size, j, none⟩ = false := by
  simp only [World.frozen?, zero_heap]
  simp
/-- The loop: from the number on, whatever the sign. -/
def Inv (B : Nat) (w : World) (m : Nat) (u i : Value) (wr : World) : Prop :=
  ∃ (x k : Nat) (ds : List UInt8), k < 20 ∧ x < 10 ^ (k + 1) ∧ x < 18446744073709551616 ∧ u = .int .u64 x ∧ i = .int .i64 ((k : Int) + 1) ∧ k + 1 + ds.length = 20 ∧ digs (k + 1) x ds = digs 20 m [] ∧ Buf B wr (k + 1) ds ∧ Below B w wr ∧ B < wr.heap.size

set_option maxHeartbeats 1000000 in
set_option maxRecDepth 100000 in
theorem itoa_pos (n : Int) (w : World) (h0 : 0 ≤ n) (h1 : n ≤ 9223372036854775807) :
    Calls Tryd.prog 6 #[.int .i64 n] w fun e w' => e = .returned (.string ⟨(itoa n).toArray⟩) ∧ Below w.heap.size w w' := by
  have h0' : decide (n < 0) = false := by simpa using h0
  have HI : Hid (itoa n = digs 20 (mag n) []) := by
    show _ = _
    unfold itoa; rw [if_neg (by omega), digs_is, List.append_nil]
  go_enter Tryd.func6, Tryd.ntmps6
  go_wp2
  go_loopw [4, 6] (fun u i wr => Inv w.heap.size w (mag n) u i wr) (fun _ i _ => (intOf i).toNat)
  case atStart =>
    refine ⟨mag n, 19, [], by omega, ?_, by unfold mag; omega, ?_, rfl, rfl, rfl, ⟨?_, ?_, ?_⟩, (Below.refl _ _).alloc (Nat.le_refl _) _, by simp⟩
    · have : (10 : Nat) ^ (19 + 1) = 100000000000000000000 := by decide
      unfold mag; omega
    · congr 1; unfold mag; omega
    · intro j hj
      exact zero_cells w j hj
    · intro j hj; cases hj
    · intro j; exact zero_frozen w j
  case round =>
    obtain ⟨x, k, ds, hk, hx, hx64, rfl, rfl, hl, hd, hbuf, hb, hsz⟩ := hrel
    have hb2 := hbuf.put x
    have hb3 : Hid (Below w.heap.size w (wr.setCell ⟨w.heap.size, k, none⟩ (.int .u8 (48 + (x : Int) % 10)))) := hb.setCell (Nat.le_refl _) _
    have ck : wr.cell? ⟨w.heap.size, k, none⟩ = some (.int .u8 0) := hbuf.1 k (by omega)
    have fk : wr.frozen? ⟨w.heap.size, k, none⟩ = false := hbuf.2.2 k
    have HX : Hid (x < 10 ^ (k + 1)) := hx
    have HD : Hid (digs (k + 1) x ds = digs 20 (mag n) []) := hd
    have HB2 : Hid _ := hb2
    have HL : Hid (k + 1 + ds.length = 20) := hl
    clear hbuf hb hx hd hb2 hl
    by_cases hz : x / 10 = 0
    · have hz' : ((x : Int) / 10 == 0) = true := by rw [beq_iff_eq]; omega
      have hsl := slice_from w.heap.size k hk
      have hcv := conv_buf w.heap.size k _ _ HB2.out (by simp; have := HL.out; omega)
      have HF : Hid (dig x :: ds = itoa n) := by
        show _ = _
        rw [HI.out, ← HD.out, digs_last _ x ds hz]
      clear HD HB2 HL HX HI
      go_wp2
      go_ret
      exact ⟨congrArg (fun l : List UInt8 => Ending.returned (Value.string ⟨l.toArray⟩)) HF.out, hb3.out⟩
    · have hz' : ((x : Int) / 10 == 0) = false := by rw [beq_eq_false_iff_ne]; omega
      have hps := pow_step x k HX.out hz
      obtain ⟨q, rfl⟩ : ∃ q, k = q + 1 := ⟨k - 1, by omega⟩
      go_wp2
      refine ⟨⟨x / 10, q, dig x :: ds, by omega, hps.2, by omega, by go_num, by go_num, by have := HL.out; simp; omega, ?_, HB2.out, hb3.out, by simpa using hsz⟩, by simp [intOf]; omega⟩
      rw [← HD.out, digs_step _ x ds hz]
theorem cat45 (l : List UInt8) : ({ data := #[45] } : ByteArray) ++ ⟨l.toArray⟩ = ⟨(45 :: l).toArray⟩ := by
  have : (({ data := #[45] } : ByteArray) ++ ⟨l.toArray⟩).data.toList = (⟨(45 :: l).toArray⟩ : ByteArray).data.toList := by simp
  revert this
  generalize ({ data := #[45] } : ByteArray) ++ ⟨l.toArray⟩ = x
  intro h
  cases x
  congr
  exact Array.toList_inj.1 h

set_option maxHeartbeats 1000000 in
set_option maxRecDepth 100000 in
theorem itoa_neg (n : Int) (w : World) (h0 : n < 0) (h1 : -9223372036854775808 ≤ n) :
    Calls Tryd.prog 6 #[.int .i64 n] w fun e w' => e = .returned (.string ⟨(itoa n).toArray⟩) ∧ Below w.heap.size w w' := by
  have h0' : decide (n < 0) = true := by simpa using h0
  have HI : Hid (itoa n = 45 :: digs 20 (mag n) []) := by
    show _ = _
    unfold itoa; rw [if_pos h0, digs_is, List.append_nil]
  go_enter Tryd.func6, Tryd.ntmps6
  go_wp2
  go_loopw [4, 6] (fun u i wr => Inv w.heap.size w (mag n) u i wr) (fun _ i _ => (intOf i).toNat)
  case atStart =>
    refine ⟨mag n, 19, [], by omega, ?_, by unfold mag; omega, ?_, rfl, rfl, rfl, ⟨?_, ?_, ?_⟩, (Below.refl _ _).alloc (Nat.le_refl _) _, by simp⟩
    · have : (10 : Nat) ^ (19 + 1) = 100000000000000000000 := by decide
      unfold mag; omega
    · exact congrArg (Value.int .u64) (neg_u64 n h0 h1)
    · intro j hj
      exact zero_cells w j hj
    · intro j hj; cases hj
    · intro j; exact zero_frozen w j
  case round =>
    obtain ⟨x, k, ds, hk, hx, hx64, rfl, rfl, hl, hd, hbuf, hb, hsz⟩ := hrel
    have hb2 := hbuf.put x
    have hb3 : Hid (Below w.heap.size w (wr.setCell ⟨w.heap.size, k, none⟩ (.int .u8 (48 + (x : Int) % 10)))) := hb.setCell (Nat.le_refl _) _
    have ck : wr.cell? ⟨w.heap.size, k, none⟩ = some (.int .u8 0) := hbuf.1 k (by omega)
    have fk : wr.frozen? ⟨w.heap.size, k, none⟩ = false := hbuf.2.2 k
    have HX : Hid (x < 10 ^ (k + 1)) := hx
    have HD : Hid (digs (k + 1) x ds = digs 20 (mag n) []) := hd
    have HB2 : Hid _ := hb2
    have HL : Hid (k + 1 + ds.length = 20) := hl
    clear hbuf hb hx hd hb2 hl
    by_cases hz : x / 10 = 0
    · have hz' : ((x : Int) / 10 == 0) = true := by rw [beq_iff_eq]; omega
      have hsl := slice_from w.heap.size k hk
      have hcv := conv_buf w.heap.size k _ _ HB2.out (by simp; have := HL.out; omega)
      have HF : Hid (({ data := #[45] } : ByteArray) ++ ⟨(dig x :: ds).toArray⟩ = ⟨(itoa n).toArray⟩) := by
        show _ = _
        rw [HI.out, ← HD.out, digs_last _ x ds hz]
        exact cat45 _
      obtain ⟨t, ht⟩ : ∃ t : ByteArray, t = ⟨(dig x :: ds).toArray⟩ := ⟨_, rfl⟩
      have hts : t.size ≤ 20 := by
        rw [ht]; show (dig x :: ds).toArray.size ≤ 20; simp; have := HL.out; omega
      rw [← ht] at hcv HF
      clear ht
      clear HD HB2 HL HX HI
      go_wp2
      go_ret
      exact ⟨congrArg (fun l : ByteArray => Ending.returned (Value.string l)) HF.out, hb3.out⟩
    · have hz' : ((x : Int) / 10 == 0) = false := by rw [beq_eq_false_iff_ne]; omega
      have hps := pow_step x k HX.out hz
      obtain ⟨q, rfl⟩ : ∃ q, k = q + 1 := ⟨k - 1, by omega⟩
      go_wp2
      refine ⟨⟨x / 10, q, dig x :: ds, by omega, hps.2, by omega, by go_num, by go_num, by have := HL.out; simp; omega, ?_, HB2.out, hb3.out, by simpa using hsz⟩, by simp [intOf]; omega⟩
      rw [← HD.out, digs_step _ x ds hz]

theorem itoa_any (n : Int) (w : World) (h0 : -9223372036854775808 ≤ n) (h1 : n ≤ 9223372036854775807) :
    Calls Tryd.prog 6 #[.int .i64 n] w fun e w' => e = .returned (.string ⟨(itoa n).toArray⟩) ∧ Below w.heap.size w w' := by
  by_cases h : n < 0
  · exact itoa_neg n w h h0
  · exact itoa_pos n w (by omega) h1
end Go.Proofs.Qxb6603014aDoor
