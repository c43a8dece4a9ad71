/- Plain laws: the scanner's places against the fields. No Go in sight. -/
import Derived.Lib.Fields
namespace Go.Proofs.Qxb6603014aDoor

/-- The bytes from a on, ahead of b, are f. -/
def Seg (l : List UInt8) (a b : Nat) (f : List UInt8) : Prop := a ≤ b ∧ b ≤ l.length ∧ (l.drop a).take (b - a) = f
/-- What the scanner knows at place k: n fields lie behind it; the first and the second lie at a..b, c..d. -/
def Scan (l : List UInt8) (n a b c d k : Nat) (fs : List (List UInt8)) : Prop :=
  k ≤ l.length ∧ fs.length = n ∧ n ≤ k ∧ Lib.fields l = fs ++ Lib.fields (l.drop k) ∧ (∀ f, fs[0]? = some f → Seg l a b f) ∧ (∀ f, fs[1]? = some f → Seg l c d f)

theorem scan_start (l : List UInt8) : Scan l 0 0 0 0 0 0 [] :=
  ⟨Nat.zero_le _, rfl, Nat.le_refl _, rfl, fun f h => by simp at h, fun f h => by simp at h⟩
theorem fields_sp (l : List UInt8) (k : Nat) (h : k < l.length) (hs : Lib.isSp l[k] = true) : Lib.fields (l.drop k) = Lib.fields (l.drop (k + 1)) := by
  rw [List.drop_eq_getElem_cons h]
  exact Lib.fieldsGo_sp _ _ hs
theorem scan_space {l : List UInt8} {n a b c d k : Nat} {fs : List (List UInt8)} (h : Scan l n a b c d k fs) (hk : k < l.length) (hs : Lib.isSp l[k] = true) : Scan l n a b c d (k + 1) fs := by
  obtain ⟨_, h2, h3, h4, h5, h6⟩ := h
  exact ⟨by omega, h2, by omega, by rw [← fields_sp l k hk hs]; exact h4, h5, h6⟩
theorem run_fields : ∀ (a cur rest : List UInt8), (∀ c ∈ a, Lib.isSp c = false) → Lib.fieldsGo cur (a ++ rest) = Lib.fieldsGo (cur ++ a) rest
  | [], cur, rest, _ => by simp
  | c :: a, cur, rest, h => by
    rw [List.cons_append, Lib.fieldsGo_more cur c _ (h c (by simp)), run_fields a (cur ++ [c]) rest (fun d hd => h d (by simp [hd]))]
    simp
/-- A run without a space, ended by a space or by the text's end, is one field. -/
theorem fields_run (l : List UInt8) (k j : Nat) (hkj : k < j) (hj : j ≤ l.length) (hr : ∀ m (hm : m < l.length), k ≤ m → m < j → Lib.isSp l[m] = false) (he : ∀ (hm : j < l.length), Lib.isSp l[j] = true) :
    Lib.fields (l.drop k) = (l.drop k).take (j - k) :: Lib.fields (l.drop j) := by
  have hs : l.drop k = (l.drop k).take (j - k) ++ l.drop j := by
    have := (List.take_append_drop (j - k) (l.drop k)).symm
    rw [List.drop_drop, show k + (j - k) = j by omega] at this
    exact this
  have hlen : ((l.drop k).take (j - k)).length = j - k := by rw [List.length_take, List.length_drop]; omega
  have hno : ∀ c ∈ (l.drop k).take (j - k), Lib.isSp c = false := by
    intro c hc
    obtain ⟨i, hi, rfl⟩ := List.mem_iff_getElem.1 hc
    rw [List.getElem_take, List.getElem_drop]
    exact hr (k + i) (by omega) (by omega) (by omega)
  have hne : (l.drop k).take (j - k) ≠ [] := fun e => by
    have := congrArg List.length e
    rw [hlen] at this
    have h0 : ([] : List UInt8).length = 0 := rfl
    omega
  generalize (l.drop k).take (j - k) = tok at *
  unfold Lib.fields
  rw [hs, run_fields tok [] _ hno, List.nil_append]
  by_cases hm : j < l.length
  · rw [List.drop_eq_getElem_cons hm, Lib.fieldsGo_end tok _ _ (he hm) hne, Lib.fieldsGo_sp _ _ (he hm)]
  · rw [List.drop_of_length_le (by omega)]
    cases tok with
    | nil => exact absurd rfl hne
    | cons c t => rfl
theorem seg_at (l : List UInt8) (k j : Nat) (hkj : k < j) (hj : j ≤ l.length) : Seg l k j ((l.drop k).take (j - k)) := ⟨by omega, hj, rfl⟩
theorem scan_first {l : List UInt8} {a b c d k : Nat} {fs : List (List UInt8)} (h : Scan l 0 a b c d k fs) (j : Nat) (hkj : k < j) (hj : j ≤ l.length) (hr : ∀ m (hm : m < l.length), k ≤ m → m < j → Lib.isSp l[m] = false) (he : ∀ (hm : j < l.length), Lib.isSp l[j] = true) :
    ∃ gs, Scan l 1 k j c d j gs := by
  obtain ⟨h1, h2, h3, h4, h5, h6⟩ := h
  have e : fs = [] := List.eq_nil_of_length_eq_zero h2
  subst e
  refine ⟨[(l.drop k).take (j - k)], hj, rfl, by omega, ?_, ?_, ?_⟩
  · rw [h4, fields_run l k j hkj hj hr he]; rfl
  · intro f hf
    have : (l.drop k).take (j - k) = f := by simpa using hf
    rw [← this]; exact seg_at l k j hkj hj
  · intro f hf; simp at hf
theorem scan_second {l : List UInt8} {a b c d k : Nat} {fs : List (List UInt8)} (h : Scan l 1 a b c d k fs) (j : Nat) (hkj : k < j) (hj : j ≤ l.length) (hr : ∀ m (hm : m < l.length), k ≤ m → m < j → Lib.isSp l[m] = false) (he : ∀ (hm : j < l.length), Lib.isSp l[j] = true) :
    ∃ gs, Scan l 2 a b k j j gs := by
  obtain ⟨h1, h2, h3, h4, h5, h6⟩ := h
  match fs, h2 with
  | [f0], _ =>
    refine ⟨[f0, (l.drop k).take (j - k)], hj, rfl, by omega, ?_, ?_, ?_⟩
    · rw [h4, fields_run l k j hkj hj hr he]; rfl
    · intro f hf; exact h5 f (by simpa using hf)
    · intro f hf
      have : (l.drop k).take (j - k) = f := by simpa using hf
      rw [← this]; exact seg_at l k j hkj hj
theorem scan_more {l : List UInt8} {n a b c d k : Nat} {fs : List (List UInt8)} (h : Scan l n a b c d k fs) (hn : 2 ≤ n) (j : Nat) (hkj : k < j) (hj : j ≤ l.length) (hr : ∀ m (hm : m < l.length), k ≤ m → m < j → Lib.isSp l[m] = false) (he : ∀ (hm : j < l.length), Lib.isSp l[j] = true) :
    ∃ gs, Scan l (n + 1) a b c d j gs := by
  obtain ⟨h1, h2, h3, h4, h5, h6⟩ := h
  refine ⟨fs ++ [(l.drop k).take (j - k)], hj, by simp [h2], by omega, ?_, ?_, ?_⟩
  · rw [h4, fields_run l k j hkj hj hr he]; simp
  · intro f hf
    rw [List.getElem?_append_left (by omega)] at hf
    exact h5 f hf
  · intro f hf
    rw [List.getElem?_append_left (by omega)] at hf
    exact h6 f hf
/-- At the text's end all fields are behind. -/
theorem scan_end {l : List UInt8} {n a b c d k : Nat} {fs : List (List UInt8)} (h : Scan l n a b c d k fs) (hk : ¬ k < l.length) :
    (Lib.fields l).length = n ∧ (∀ f0 f1, Lib.fields l = [f0, f1] → Seg l a b f0 ∧ Seg l c d f1) := by
  obtain ⟨h1, h2, h3, h4, h5, h6⟩ := h
  rw [List.drop_of_length_le (by omega)] at h4
  have e : Lib.fields l = fs := by rw [h4]; simp [Lib.fields, Lib.fieldsGo]
  rw [e]
  refine ⟨h2, fun f0 f1 hf => ?_⟩
  subst hf
  exact ⟨h5 f0 rfl, h6 f1 rfl⟩
end Go.Proofs.Qxb6603014aDoor
