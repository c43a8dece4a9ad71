/- Plain laws: the last slash of a text. No Go in sight. -/
import Derived.Lib.Strings
import Derived.Lib.IndexBytes
namespace Go.Proofs.Qxb6603014a

/-- The place of the last byte 47, or -1. -/
def lastS (l : List UInt8) : Int := (l.length : Int) - 1 - ((l.reverse.takeWhile (fun c => c != 47)).length : Int)

theorem lastS_nil : lastS [] = -1 := rfl
theorem lastS_hit (l : List UInt8) : lastS (l ++ [47]) = l.length := by
  unfold lastS; simp
theorem lastS_miss (l : List UInt8) (c : UInt8) (h : c ≠ 47) : lastS (l ++ [c]) = lastS l := by
  unfold lastS; simp [h]; omega
theorem tw_all : ∀ (x : List UInt8), 47 ∉ x → x.takeWhile (fun c => c != 47) = x
  | [], _ => rfl
  | c :: x, h => by
    have h1 : c ≠ 47 := fun e => h (by simp [e])
    have h2 : 47 ∉ x := fun e => h (by simp [e])
    rw [List.takeWhile_cons, if_pos (by simpa using h1), tw_all x h2]
theorem tw_cut : ∀ (x y : List UInt8), ((x ++ 47 :: y).takeWhile (fun c => c != 47)).length ≤ x.length
  | [], y => by simp
  | c :: x, y => by
    rw [List.cons_append, List.takeWhile_cons]
    split
    · have := tw_cut x y; simp; omega
    · simp
theorem lastS_none (l : List UInt8) (h : 47 ∉ l) : lastS l = -1 := by
  unfold lastS
  rw [tw_all l.reverse (by simpa using h)]; simp; omega
theorem lastS_some (l : List UInt8) (h : 47 ∈ l) : 0 ≤ lastS l := by
  obtain ⟨a, b, rfl⟩ := List.append_of_mem h
  unfold lastS
  have e : (a ++ 47 :: b).reverse = b.reverse ++ 47 :: a.reverse := by simp
  have := tw_cut b.reverse a.reverse
  rw [e]
  simp only [List.length_append, List.length_cons, List.length_reverse] at *
  omega
theorem lastS_at (a b : List UInt8) (h : 47 ∉ b) : lastS (a ++ 47 :: b) = a.length := by
  unfold lastS
  have e : (a ++ 47 :: b).reverse = b.reverse ++ 47 :: a.reverse := by simp
  rw [e, List.takeWhile_append_of_pos]
  · simp; omega
  · intro c hc
    have : c ≠ 47 := fun e => h (by rw [← e]; simpa using hc)
    simpa using this
theorem lastS_lt (l : List UInt8) : lastS l < l.length := by unfold lastS; omega

theorem size_len (s : ByteArray) : s.data.toList.length = s.size := Array.length_toList
theorem take_snoc (s : ByteArray) (k : Nat) (h : k < s.size) : s.data.toList.take (k + 1) = s.data.toList.take k ++ [s[k]] := by
  rw [List.take_succ_eq_append_getElem (by rw [size_len]; exact h)]; rfl
theorem take_all (s : ByteArray) : s.data.toList.take s.size = s.data.toList := List.take_of_length_le (by rw [size_len]; omega)
theorem of_data {s t : ByteArray} (h : s.data.toList = t.data.toList) : s = t := by
  cases s; cases t; congr; exact Array.toList_inj.1 h
theorem ext_list (s : ByteArray) (a b : Nat) : (s.extract a b).data.toList = (s.data.toList.drop a).take (b - a) := by
  rw [ByteArray.data_extract, Array.toList_extract, List.extract_eq_take_drop]
/-- The text behind the slash, and the text ahead of it. -/
theorem tail_is (p t : ByteArray) (a : List UInt8) (n : Nat) (hp : p.data.toList = a ++ 47 :: t.data.toList) (hn : n = a.length) : p.extract (n + 1) p.size = t := by
  apply of_data
  have e : (a ++ 47 :: t.data.toList).drop (a.length + 1) = t.data.toList := by
    rw [show a ++ 47 :: t.data.toList = (a ++ [47]) ++ t.data.toList by simp]
    exact List.drop_left' (by simp)
  have hl : p.size = a.length + (t.data.toList.length + 1) := by rw [← size_len p, hp]; simp
  rw [ext_list, hp, hn, e, hl]
  exact List.take_of_length_le (by omega)
theorem head_is (p : ByteArray) (a b : List UInt8) (n : Nat) (hp : p.data.toList = a ++ 47 :: b) (hn : n = a.length) : (p.extract 0 n).data.toList = a := by
  rw [ext_list, hp, hn]; simp
end Go.Proofs.Qxb6603014a
