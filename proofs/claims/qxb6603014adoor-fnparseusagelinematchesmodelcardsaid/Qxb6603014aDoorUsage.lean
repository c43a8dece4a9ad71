/- parseUsageLine, walked. -/
import Derived.Test.Qxb6603014aDoorCalls
import Derived.RegionTactic
import Derived.ChangeAlike
import Derived.Deep.Light
namespace Go.Proofs.Qxb6603014aDoor
open Go.RowKit
set_option linter.unusedVariables false

/-- The bytes that a usage line may hold. -/
def okB (c : UInt8) : Bool := decide ((48 ≤ c.toNat ∧ c.toNat ≤ 57) ∨ c.toNat = 43 ∨ c.toNat = 45 ∨ c.toNat = 32 ∨ (9 ≤ c.toNat ∧ c.toNat ≤ 13))
/-- What parseUsageLine hands back. -/
def usage (l : List UInt8) : Int × Int × Bool :=
  if l.all okB = true then (match Lib.fields l with | [a, b] => (numI a, numI b, okI a && okI b) | _ => (0, 0, false)) else (0, 0, false)
def UsageRet (r : Int × Int × Bool) : Ending := .returned (.tuple #[.agg #[.int .i64 r.1, .int .i64 r.2.1], .bool r.2.2])

theorem size_len (s : ByteArray) : s.data.toList.length = s.size := Array.length_toList
theorem take_snoc (s : ByteArray) (k : Nat) (h : k < s.size) : s.data.toList.take (k + 1) = s.data.toList.take k ++ [s[k]] := by
  rw [List.take_succ_eq_append_getElem (by rw [size_len]; exact h)]; rfl
theorem take_all (s : ByteArray) (k : Nat) (h : ¬ k < s.size) : s.data.toList.take k = s.data.toList := List.take_of_length_le (by rw [size_len]; omega)

theorem bad_all (s : ByteArray) (k : Nat) (h : k < s.size) (hb : okB s[k] = false) : s.data.toList.all okB = false := by
  rw [List.all_eq_false]
  refine ⟨s[k], ?_, by simp [hb]⟩
  exact List.getElem_mem (l := s.data.toList) (by rw [size_len]; exact h)
theorem usage_bad (l : List UInt8) (h : l.all okB = false) : usage l = (0, 0, false) := by unfold usage; rw [h]; rfl
theorem usage_none (l : List UInt8) (h : (Lib.fields l).length ≠ 2) : usage l = (0, 0, false) := by
  unfold usage
  split
  · split
    · rename_i e; rw [e] at h; exact absurd rfl h
    · rfl
  · rfl
theorem usage_two (l a b : List UInt8) (h : l.all okB = true) (hf : Lib.fields l = [a, b]) : usage l = (numI a, numI b, okI a && okI b) := by
  unfold usage; rw [if_pos h, hf]
theorem okB_ascii (l : List UInt8) (h : l.all okB = true) (j : Nat) (b : UInt8) (hj : l[j]? = some b) : b.toNat < 128 := by
  have := List.all_eq_true.1 h b (List.mem_of_getElem? hj)
  unfold okB at this
  have := of_decide_eq_true this
  omega

theorem okB_mk {c : UInt8} (h : (48 ≤ c.toNat ∧ c.toNat ≤ 57) ∨ c.toNat = 43 ∨ c.toNat = 45 ∨ c.toNat = 32 ∨ (9 ≤ c.toNat ∧ c.toNat ≤ 13)) : okB c = true := decide_eq_true h
theorem okB_no {c : UInt8} (h : ¬ ((48 ≤ c.toNat ∧ c.toNat ≤ 57) ∨ c.toNat = 43 ∨ c.toNat = 45 ∨ c.toNat = 32 ∨ (9 ≤ c.toNat ∧ c.toNat ≤ 13))) : okB c = false := decide_eq_false h
theorem all_next (s : ByteArray) (k : Nat) (h : k < s.size) (ha : (s.data.toList.take k).all okB = true) (hc : okB s[k] = true) : (s.data.toList.take (k + 1)).all okB = true := by
  rw [take_snoc s k h, List.all_append, ha]; simp [hc]

theorem fieldsGo_le : ∀ (l cur : List UInt8) (f : List UInt8), f ∈ Lib.fieldsGo cur l → f.length ≤ cur.length + l.length
  | [], cur, f, h => by
    unfold Lib.fieldsGo at h
    split at h
    · cases h
    · rw [List.mem_singleton] at h; subst h; simp
  | c :: l, cur, f, h => by
    unfold Lib.fieldsGo at h
    split at h
    · split at h
      · have := fieldsGo_le l [] f h; simp at *; omega
      · rcases List.mem_cons.1 h with h | h
        · subst h; omega
        · have := fieldsGo_le l [] f h; simp at *; omega
    · have := fieldsGo_le l (cur ++ [c]) f h; simp at *; omega
theorem fields_le (l : List UInt8) (f : List UInt8) (h : f ∈ Lib.fields l) : f.length ≤ l.length := by
  have := fieldsGo_le l [] f h; simpa using this
theorem bcell {W w1 : World} (hb : Below W.heap.size W w1) : (∀ b o, b < W.heap.size → w1.cell? ⟨b, o, none⟩ = W.cell? ⟨b, o, none⟩) ∧ (∀ b o, b < W.heap.size → w1.frozen? ⟨b, o, none⟩ = W.frozen? ⟨b, o, none⟩) :=
  ⟨fun b o h => hb.cell (p := ⟨b, o, none⟩) h, fun b o h => hb.frozen (p := ⟨b, o, none⟩) h⟩

theorem mem_two (w w3 w4 : World) (o2 : Obj) (va vb : Int)
    (hb1 : Below (((w.alloc (.cells #[.int .i64 0, .int .i64 0] 24)).alloc o2).alloc (.cells #[.int .i64 0, .int .i64 0] 24)).heap.size (((w.alloc (.cells #[.int .i64 0, .int .i64 0] 24)).alloc o2).alloc (.cells #[.int .i64 0, .int .i64 0] 24)) w3)
    (hb2 : Below (w3.setCell ⟨w.heap.size + 1 + 1, 0, none⟩ (.int .i64 va)).heap.size (w3.setCell ⟨w.heap.size + 1 + 1, 0, none⟩ (.int .i64 va)) w4) :
    (w4.setCell ⟨w.heap.size + 1 + 1, 1, none⟩ (.int .i64 vb)).cell? ⟨w.heap.size + 1 + 1, 0, none⟩ = some (.int .i64 va) ∧
    (w4.setCell ⟨w.heap.size + 1 + 1, 1, none⟩ (.int .i64 vb)).cell? ⟨w.heap.size + 1 + 1, 1, none⟩ = some (.int .i64 vb) ∧
    (∀ j, j < 2 → (w4.setCell ⟨w.heap.size + 1 + 1, 1, none⟩ (.int .i64 vb)).cell? ⟨w.heap.size, j, none⟩ = some (.int .i64 0)) ∧
    (∀ j, (w4.setCell ⟨w.heap.size + 1 + 1, 1, none⟩ (.int .i64 vb)).frozen? ⟨w.heap.size, j, none⟩ = false) := by
  have hs3 : w.heap.size + 1 + 1 < w3.heap.size := by have := hb1.size; simp at this; omega
  have hs3' : w.heap.size + 1 + 1 < (w3.setCell ⟨w.heap.size + 1 + 1, 0, none⟩ (.int .i64 va)).heap.size := by simpa using hs3
  have b3 : w3.heap[w.heap.size + 1 + 1]? = some (.cells #[.int .i64 0, .int .i64 0] 24) := by
    rw [hb1.block _ (by simp)]
    show ((((w.heap.push _).push _).push _))[w.heap.size + 1 + 1]? = _
    rw [Array.getElem?_push, if_pos (by simp)]
  have a3 : w3.heap[w.heap.size]? = some (.cells #[.int .i64 0, .int .i64 0] 24) := by
    rw [hb1.block _ (by simp; omega)]
    show ((((w.heap.push _).push _).push _))[w.heap.size]? = _
    simp [Array.getElem?_push]
  have b4 : w4.heap[w.heap.size + 1 + 1]? = some (.cells #[.int .i64 va, .int .i64 0] 24) := by
    rw [hb2.block _ hs3']
    simp [World.setCell, Array.getElem?_modify, b3]
  have a4 : w4.heap[w.heap.size]? = some (.cells #[.int .i64 0, .int .i64 0] 24) := by
    rw [hb2.block _ (by omega), Below.heap_setCell _ _ _ _ (by simp; omega), a3]
  have b5 : (w4.setCell ⟨w.heap.size + 1 + 1, 1, none⟩ (.int .i64 vb)).heap[w.heap.size + 1 + 1]? = some (.cells #[.int .i64 va, .int .i64 vb] 24) := by
    simp [World.setCell, Array.getElem?_modify, b4]
  have a5 : (w4.setCell ⟨w.heap.size + 1 + 1, 1, none⟩ (.int .i64 vb)).heap[w.heap.size]? = some (.cells #[.int .i64 0, .int .i64 0] 24) := by
    rw [Below.heap_setCell _ _ _ _ (by simp; omega), a4]
  refine ⟨?_, ?_, ?_, ?_⟩
  · simp only [World.cell?, b5]; simp
  · simp only [World.cell?, b5]; simp
  · intro j hj
    have : j = 0 ∨ j = 1 := by omega
    rcases this with rfl | rfl <;> (simp only [World.cell?, a5]; simp)
  · intro j
    simp [World.frozen?, a5]

set_option maxHeartbeats 1000000 in
theorem usage_walk (s : ByteArray) (w : World) (hs : s.size ≤ 1048600) (env : Env w) :
    Calls Tryd.prog 11 #[.string s] w fun e w' => e = UsageRet (usage s.data.toList) ∧ Below w.heap.size w w' := by
  have ENV : Hid (Env w) := env
  clear env
  go_enter Tryd.func11, Tryd.ntmps11
  go_wp2
  go_loop [4] (fun i => ∃ k : Nat, k ≤ s.size ∧ i = .int .i64 k ∧ (s.data.toList.take k).all okB = true) (fun i => s.size - (intOf i).toNat)
  case atStart => exact ⟨0, Nat.zero_le _, rfl, by simp⟩
  case round =>
    obtain ⟨k, hk, rfl, hal⟩ := hrel
    have HA : Hid ((s.data.toList.take k).all okB = true) := hal
    clear hal
    by_cases hlt : k < s.size
    · go_wp2
      all_goals first
        | (refine ⟨⟨k + 1, by omega, by go_num, all_next s k hlt HA.out (okB_mk ?_)⟩, by simp [intOf]; omega⟩
           go_light
           simp only [beq_iff_eq, beq_eq_false_iff_ne] at *
           omega)
        | (refine bodyPost_ret (v := .tuple #[.agg #[.int .i64 0, .int .i64 0], .bool false]) (by simp [results, Tryd.results11, go_sem]) rfl ⟨?_, (Below.refl _ _).alloc (Nat.le_refl _) _⟩
           rw [usage_bad _ (bad_all s k hlt (okB_no ?_))]
           · rfl
           · go_light
             simp only [beq_eq_false_iff_ne] at *
             omega)
    · have hall : Hid (s.data.toList.all okB = true) := by rw [← take_all s k hlt]; exact HA.out
      clear HA
      have env0 : Hid (∀ o, Env (w.alloc o)) := fun o => ENV.out.below ((Below.refl _ _).alloc (Nat.le_refl _) _)
      go_wp2_with fail
      refine (fields_any s _ (by omega) (okB_ascii _ hall.out) (env0.out _)).mono ?_
      rintro e w' ⟨rfl, rfl⟩
      by_cases h2 : (Lib.fields s.data.toList).length = 2
      · obtain ⟨a, b, hab⟩ : ∃ a b, Lib.fields s.data.toList = [a, b] := by
          match hf : Lib.fields s.data.toList, h2 with
          | [a, b], _ => exact ⟨a, b, rfl⟩
        rw [hab]
        have hu := usage_two _ a b hall.out hab
        have HU : Hid (usage s.data.toList = (numI a, numI b, okI a && okI b)) := hu
        have HL : Hid (a.length ≤ s.size ∧ b.length ≤ s.size) := by
          have := fields_le s.data.toList
          rw [hab, size_len] at this
          exact ⟨this a (by simp), this b (by simp)⟩
        clear hu hab h2 hall
        have hla : (⟨a.toArray⟩ : ByteArray).size ≤ 281474976710656 := by
          have := HL.out.1; show a.toArray.size ≤ _; simp; omega
        have hlb : (⟨b.toArray⟩ : ByteArray).size ≤ 281474976710656 := by
          have := HL.out.2; show b.toArray.size ≤ _; simp; omega
        have env1 : Hid (∀ o1 o2 o3, Env (((w.alloc o1).alloc o2).alloc o3)) := fun o1 o2 o3 => ENV.out.below ((((Below.refl _ _).alloc (Nat.le_refl _) _).alloc (by simp) _).alloc (by simp; omega) _)
        go_wp2_with fail
        refine (parse_any _ hla _ (env1.out _ _ _)).mono ?_
        rintro e w3 ⟨er1, rfl, he1, hb1⟩
        obtain ⟨hc3, hf3⟩ := bcell hb1
        have hz3 : w.heap.size + 2 < w3.heap.size := by have := hb1.size; simp at this; omega
        have HB1 := (show Hid _ from hb1)
        clear hb1
        simp only [World.size_alloc] at hc3 hf3
        have BE1 : Hid (Below w.heap.size w w3) := ((((Below.refl _ _).alloc (Nat.le_refl _) _).alloc (by simp) _).alloc (by simp; omega) _).trans (HB1.out.mono (by simp; omega))
        have env2 : Hid (∀ v, Env (w3.setCell ⟨w.heap.size + 1 + 1, 0, none⟩ v)) := fun v => ENV.out.below (BE1.out.setCell (by simp; omega) v)
        have HU1 : Hid _ := he1
        clear he1
        have hex : (er1 = .nilIface ∨ ∃ t a, er1 = .iface t (.pointer (some a))) := by
          rcases HU1.out with ⟨_, h⟩ | ⟨_, h⟩
          · exact .inl h
          · exact .inr h
        go_wp2_with fail
        refine (parse_any _ hlb _ (env2.out _)).mono ?_
        rintro e w4 ⟨er2, rfl, he2, hb2⟩
        obtain ⟨hc4, hf4⟩ := bcell hb2
        have hz4 : w.heap.size + 2 < w4.heap.size := by have := hb2.size; simp at this; omega
        have BE2 : Hid (Below w.heap.size w w4) := (BE1.out.setCell (p := ⟨w.heap.size + 1 + 1, 0, none⟩) (by simp; omega) _).trans (hb2.mono (by have := BE1.out.size; simp; omega))
        have HB2 := (show Hid _ from hb2)
        clear hb2
        have HU2 : Hid _ := he2
        clear he2
        have hex2 : (er2 = .nilIface ∨ ∃ t a, er2 = .iface t (.pointer (some a))) := by
          rcases HU2.out with ⟨_, h⟩ | ⟨_, h⟩
          · exact .inl h
          · exact .inr h
        go_wp2_with fail
        have BE3 : Hid (Below w.heap.size w (w4.setCell ⟨w.heap.size + 1 + 1, 1, none⟩ (.int .i64 (numI b)))) := BE2.out.setCell (by simp; omega) _
        obtain ⟨r0, r1, r2, r3⟩ := mem_two w w3 w4 _ (numI a) (numI b) HB1.out HB2.out
        have r20 := r2 0 (by omega)
        have r21 := r2 1 (by omega)
        have r30 := r3 0
        have r31 := r3 1
        clear r2 r3 HB1 HB2 hc3 hf3 hc4 hf4 BE1 BE2 env2 env1 env0
        have hz5 : w.heap.size + 2 < (w4.setCell ⟨w.heap.size + 1 + 1, 1, none⟩ (.int .i64 (numI b))).heap.size := by simpa using hz4
        generalize w4.setCell ⟨w.heap.size + 1 + 1, 1, none⟩ (.int .i64 (numI b)) = w5 at *
        clear hz4 hz3
        rcases hex with rfl | ⟨t1, a1, rfl⟩ <;> rcases hex2 with rfl | ⟨t2, a2, rfl⟩
        all_goals
          go_region
          go_wp2
          refine bodyPost_ret (v := .tuple #[.agg #[.int .i64 (numI a), .int .i64 (numI b)], .bool (okI a && okI b)]) ?_ rfl ⟨by rw [HU.out]; rfl, ?_⟩
          · rcases HU1.out with ⟨k1, q1⟩ | ⟨k1, q1⟩ <;> rcases HU2.out with ⟨k2, q2⟩ | ⟨k2, q2⟩ <;> first
              | (simp at q1; done)
              | (simp at q2; done)
              | (rw [show okI a = _ from k1, show okI b = _ from k2]; simp [results, Tryd.results11, go_sem, r20, r21])
          · exact ((BE3.out.setCell (Nat.le_refl _) _).setCell (Nat.le_refl _) _).drew
      · have hu : Hid (usage s.data.toList = (0, 0, false)) := usage_none _ h2
        have h2' : (((Lib.fields s.data.toList).length : Int) != 2) = true := by
          rw [bne_iff_ne]; omega
        clear h2
        go_wp2
        refine bodyPost_ret (v := .tuple #[.agg #[.int .i64 0, .int .i64 0], .bool false]) (by simp [results, Tryd.results11, go_sem]) rfl ⟨?_, ((Below.refl _ _).alloc (Nat.le_refl _) _).alloc (by simp) _⟩
        rw [hu.out]; rfl
end Go.Proofs.Qxb6603014aDoor
