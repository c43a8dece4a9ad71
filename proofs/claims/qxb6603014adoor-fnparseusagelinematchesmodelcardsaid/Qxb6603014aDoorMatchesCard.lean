/- THE CARD Rows.FnParseUsageLineMatchesModelCardSaid: the row, its listed variables tied to the program's text. -/
import Derived.Test.Qxb6603014aDoorMatchesRow
import Derived.Test.Qxb6603014aDoorTie
import Derived.Test.Qxb6603014aDoorCards
import Derived.SevenTiedAt
namespace Go.Proofs.Qxb6603014aDoor.fnParseUsageLineMatchesModel
open Go

theorem proved : Rows.FnParseUsageLineMatchesModelCardSaid :=
  Claim7.holds_tied_plain_at .later [] [.data, .data, .data, .sentinel, .sentinel, .listed, .data] true (true, "4228882c905329d4bcc8172af782f7c57290c830d42f96e206ea9b8bc34a998d") true
    row_holds (fun _ h => by cases h) (by kernel_rfl) (fun _ h => by cases h) fnParseUsageLineMatchesModel_row_tie rfl ⟨rfl, rfl⟩ (by kernel_rfl) rfl
    (fun f fn hf hfn => by
      obtain rfl : f = 4 := Option.some.inj ((show Tryd.prog.funcNamed Tryd.f4.name = some 4 by kernel_rfl).symm.trans hf) |>.symm
      obtain rfl : fn = Tryd.f4 := (Option.some.inj (Tryd.func4.symm.trans hfn)).symm
      exact ⟨by kernel_rfl, fun j t ht => by
        rw [Tryd.params4] at ht
        have hm : t ∈ [9] := by simpa using Array.mem_of_getElem? ht
        have hall : ([9].all fun u => !Tryd.prog.wantsStandIn u) = true := by kernel_rfl
        exact (show Tryd.prog.wantsStandIn t = false by simpa using List.all_eq_true.1 hall t hm)⟩)
    (by kernel_rfl)
#print axioms proved
end Go.Proofs.Qxb6603014aDoor.fnParseUsageLineMatchesModel
