/- strings.Fields and strconv.ParseInt at this dump: one contract each, over what the listed variables hold. -/
import Derived.Test.Qxb6603014aDoorRows
import Derived.Test.Qxb6603014aDoorShelf
import Derived.Lib.AtoiErrMem
import Derived.WalkKit
import Derived.Below
namespace Go.Proofs.Qxb6603014aDoor
open Go.RowKit
set_option linter.unusedVariables false

/-- WHAT THE WALKS ASK OF THE LISTED VARIABLES: strings.asciiSpace holds its table; strconv's two sentinels are no nil errors. -/
def Env (w : World) : Prop :=
  (∀ c : Nat, c < 256 → w.cell? ⟨0, c, none⟩ = some (.int .u8 (if Lib.isSp (UInt8.ofNat c) then 1 else 0))) ∧
  (∃ t p, w.cell? ⟨2, 0, none⟩ = some (.iface t p)) ∧ (∃ t p, w.cell? ⟨3, 0, none⟩ = some (.iface t p))

theorem Env.below {w w' : World} (h : Env w) (hb : Below w.heap.size w w') : Env w' := by
  obtain ⟨h1, ⟨t2, p2, h2⟩, ⟨t3, p3, h3⟩⟩ := h
  refine ⟨fun c hc => ?_, ⟨t2, p2, ?_⟩, ⟨t3, p3, ?_⟩⟩
  · rw [hb.cell (World.block_lt_of_cell? _ _ (h1 c hc))]; exact h1 c hc
  · rw [hb.cell (World.block_lt_of_cell? _ _ h2)]; exact h2
  · rw [hb.cell (World.block_lt_of_cell? _ _ h3)]; exact h3

/-- ParseInt's number, and whether it comes with no error. -/
def numI (l : List UInt8) : Int := match Lib.parseIntB 64 l with | .ok v => v | .range => Lib.intSat 64 l | _ => 0
def okI (l : List UInt8) : Bool := match Lib.parseIntB 64 l with | .ok _ => true | _ => false

theorem parse_any (s : ByteArray) (hlim : s.size ≤ 281474976710656) (w : World) (env : Env w) :
    Calls Tryd.prog 15 #[.string s, .int .i64 10, .int .i64 64] w fun e w' => ∃ er, e = .returned (.tuple #[.int .i64 (numI s.data.toList), er]) ∧
      ((okI s.data.toList = true ∧ er = .nilIface) ∨ (okI s.data.toList = false ∧ ∃ t a, er = .iface t (.pointer (some a)))) ∧ Below w.heap.size w w' := by
  obtain ⟨_, ⟨t2, p2, h2⟩, ⟨t3, p3, h3⟩⟩ := env
  unfold numI okI
  cases hp : Lib.parseIntB 64 s.data.toList with
  | ok v =>
    refine (Any.strconv_ParseInt_10_at64_ok Tryd.laysC174 s (by omega) v hp w).mono ?_
    rintro e w' ⟨rfl, hw⟩
    refine ⟨_, rfl, .inl ⟨rfl, rfl⟩, ?_⟩
    rcases hw with rfl | ⟨t, rfl⟩
    · exact Below.refl _ _
    · exact Lib.bytesWorld_below w _ t
  | range =>
    refine (Any.strconv_ParseInt_10_at64_range Tryd.laysC174 s hlim hp _ w h3 (.inr ⟨t3, p3, rfl⟩)).mono ?_
    rintro e w' ⟨N, rfl, _, _, hb⟩
    exact ⟨_, rfl, .inr ⟨rfl, _, _, rfl⟩, hb⟩
  | _ =>
    refine (Any.strconv_ParseInt_10_at64_syntax Tryd.laysC174 s hlim hp _ w h2 (.inr ⟨t2, p2, rfl⟩)).mono ?_
    rintro e w' ⟨N, rfl, _, _, hb⟩
    exact ⟨_, rfl, .inr ⟨rfl, _, _, rfl⟩, hb⟩

theorem fields_any (s : ByteArray) (w : World) (hs : s.size < 4294967281) (hascii : ∀ (j : Nat) b, s.data.toList[j]? = some b → b.toNat < 128) (env : Env w) :
    Calls Tryd.prog 14 #[.string s] w fun e w' =>
      e = .returned (.slice (some ⟨w.heap.size, 0, none⟩) (Lib.fields s.data.toList).length (Lib.fields s.data.toList).length) ∧ w' = w.alloc (.cells ((Lib.fields s.data.toList).map fun l => Value.string ⟨l.toArray⟩).toArray 9) :=
  Any.strings_Fields_core Tryd.lays157 (by kernel_rfl) s w hs hascii env.1
end Go.Proofs.Qxb6603014aDoor
