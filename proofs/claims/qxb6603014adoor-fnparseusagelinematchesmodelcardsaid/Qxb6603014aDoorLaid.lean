/- From what a row lists of the package-level variables to what the walks ask. -/
import Derived.Test.Qxb6603014aDoorReads
import Derived.ProofKit
import Derived.LaidMore
import Derived.Lib.LaidTab
import Derived.Stop.Joined
import Derived.Stop.LaidErr
namespace Go.Proofs.Qxb6603014aDoor
open Go.RowKit
set_option linter.unusedVariables false

theorem gSpace : Tryd.prog.globalNamed "strings.asciiSpace" = some 0 := by kernel_rfl
theorem gSyntax : Tryd.prog.globalNamed "strconv.ErrSyntax" = some 2 := by kernel_rfl
theorem gRange : Tryd.prog.globalNamed "strconv.ErrRange" = some 3 := by kernel_rfl
theorem tSyntax : (Tryd.prog.globals[2]?).map (·.type) = some 40 := by kernel_rfl
theorem tRange : (Tryd.prog.globals[3]?).map (·.type) = some 40 := by kernel_rfl
theorem space_is : (Rows.laid_strings_asciiSpace : DataW Unit) = Lib.tabData .u8 Lib.asciiSpaceTab := by kernel_rfl

/-- A variable of an interface type that is listed as a held value holds one. -/
theorem iface_of_laid {P : Program} {n nm : String} {d : DataW Unit} {r : List (String × DataW Unit)} {W : World} {g : Nat} {ti : TypeId} {ms : Array (String × TypeId)}
    (h : laidMet P ((n, .iface nm d) :: r) W) (hg : P.globalNamed n = some g) (ht : (P.globals[g]?).map (·.type) = some ti) (hi : P.underlying ti = some (.interface ms)) :
    ∃ u v, W.cell? ⟨g, 0, none⟩ = some (.iface u v) := by
  obtain ⟨ps, ⟨g0, t0, cs0, f0, p0, q0, hg0, ht0, hv0, hd0, _, e0⟩, _, hrows⟩ := h
  obtain rfl := Option.some.inj (hg.symm.trans hg0)
  obtain rfl := Option.some.inj (ht.symm.trans ht0)
  obtain ⟨l0⟩ := cs0
  have hc : ∃ u v, l0 = [.iface u v] := by
    cases f0 with
    | zero => simp [DataW.trod] at hd0
    | succ f =>
      simp only [DataW.trod, hi] at hd0
      split at hd0 <;> first
        | exact ⟨_, _, rfl⟩
        | (simp at hd0; done)
        | (cases hd0; done)
        | skip
      all_goals simp_all
  obtain ⟨u, v, rfl⟩ := hc
  exact ⟨u, v, by simpa using World.var?_cell hg0 hv0 0⟩

/-- The seven variables that the rows list, in their order. -/
def laid7 : List (String × DataW Unit) := Rows.fnParseUsageLineReadsWhatIsWrittenRow.laid

theorem env_of_laid {W : World} (h : laidMetH Tryd.prog laid7 W) : Env W := by
  rw [MakeChecks.laidMetH_plain _ _ _ (by kernel_rfl)] at h
  have h1 := h.tail.tail.tail
  have h2 := h1.tail
  have h3 := h2.tail.tail
  refine ⟨?_, iface_of_laid h2 gSyntax tSyntax Tryd.underlying40, iface_of_laid h1 gRange tRange Tryd.underlying40⟩
  have h4 : laidMet Tryd.prog [("strings.asciiSpace", Lib.tabData .u8 Lib.asciiSpaceTab)] W := by rw [← space_is]; exact h3
  have ht := Lib.tabIs_of_head (n := 256) (t := 44) (e := 5) gSpace (by kernel_rfl) Tryd.underlying44 Tryd.underlying5 (by kernel_rfl) (by kernel_rfl) h4
  intro c hc
  rw [ht.cell gSpace c (by rw [Lib.asciiSpaceTab_length]; exact hc), Lib.asciiSpaceTab_at c hc]

/-- The door's own heap meets the condition. -/
theorem door_met (os : Os) (args : Array Value) : laidMetH Tryd.prog laid7 ((World.doorLaid Tryd.prog 400 os).forCall (fun _ _ => 0) ⟨#[], args, []⟩).memory :=
  laidMetH_of_parts3 (fuel := 8) (laidMet_of_run' 8 (by kernel_rfl) (by kernel_rfl)) (by kernel_rfl) (by kernel_rfl)
end Go.Proofs.Qxb6603014aDoor
