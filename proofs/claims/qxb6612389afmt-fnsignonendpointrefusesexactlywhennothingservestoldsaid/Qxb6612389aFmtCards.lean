/-
  DERIVED. GIVEN WITH THE SEED: THE CARDS: each row of Qxb6612389aFmtRows.lean that lists a variable, with what it lists TIED to the program's text (the seventh form; the later family's looks); each row that meets fmt, with fmt's text TOLD by the authors' own Lean function (tested against real Go, not proved from fmt's source: count such statements apart). THE CARD IS WHAT COUNTS. Prove the row's statement (the work); the ties are given (Qxb6612389aFmtTie.lean); close each card by the builder's one call (the guide's Derived/Test/ToyasCard.lean, 'card_holds'). Laid BY PROGRAM, IN A SANDBOX (cutbox-door.mjs). By AI agents, Wed Nov 11 2026. No macro, syntax, notation, axiom, sorry.
-/
import Derived.Test.Qxb6612389aFmtRows
import GoSem.ClaimSeven
namespace Go.Proofs.Qxb6612389aFmt
namespace Rows

/-- THE TOLD CARD OF 'zzlaws_root_b1.FnSignOnEndpointPicksFirstServedBinding'. -/
def fnSignOnEndpointPicksFirstServedBindingCard : Claim7 := { stood := { row := fnSignOnEndpointPicksFirstServedBindingRow, standIns := [], harness := (true, "e6843c82a00493d08e7b02501e82d91cee2584d29888936158b7cd34b5f131ac"), looks := false }, told := true, goes := false }
def FnSignOnEndpointPicksFirstServedBindingToldSaid : Prop := Claim7.holds Tryf.pinned (.plain (OpenSpec.ofChange fnSignOnEndpointPicksFirstServedBindingSpec)) fnSignOnEndpointPicksFirstServedBindingCard
/-- ITS FALSE NEIGHBOUR. Refute it at one input. -/
def FnSignOnEndpointPicksFirstServedBindingToldWrongFalsely : Prop := Claim7.holds Tryf.pinned (.plain (OpenSpec.ofChange fnSignOnEndpointPicksFirstServedBindingWrong)) fnSignOnEndpointPicksFirstServedBindingCard

/-- THE TOLD CARD OF 'zzlaws_root_b1.FnSignOnEndpointRefusesExactlyWhenNothingServes'. -/
def fnSignOnEndpointRefusesExactlyWhenNothingServesCard : Claim7 := { stood := { row := fnSignOnEndpointRefusesExactlyWhenNothingServesRow, standIns := [], harness := (true, "e6843c82a00493d08e7b02501e82d91cee2584d29888936158b7cd34b5f131ac"), looks := false }, told := true, goes := false }
def FnSignOnEndpointRefusesExactlyWhenNothingServesToldSaid : Prop := Claim7.holds Tryf.pinned (.plain (OpenSpec.ofChange fnSignOnEndpointRefusesExactlyWhenNothingServesSpec)) fnSignOnEndpointRefusesExactlyWhenNothingServesCard
/-- ITS FALSE NEIGHBOUR. Refute it at one input. -/
def FnSignOnEndpointRefusesExactlyWhenNothingServesToldWrongFalsely : Prop := Claim7.holds Tryf.pinned (.plain (OpenSpec.ofChange fnSignOnEndpointRefusesExactlyWhenNothingServesWrong)) fnSignOnEndpointRefusesExactlyWhenNothingServesCard
end Rows
end Go.Proofs.Qxb6612389aFmt
