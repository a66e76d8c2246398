/-
  No cell of these rows narrows 'for every input' (looked for: loops, veiled, ifaces, maps, wideKeys, modest, calm, conditions, laid).
  DERIVED. THE GIVEN ROWS OF THIS SEAT. 2 by the template 'for every input the law returns true; each argument reads behind the call as it read before'; 0 by the template 'total and deterministic' (their statements: Qxb6612389aFmtTotals.lean).
  GIVEN WITH THE SEED: the statements are not yours to turn. If you find one false, say at which input.
  Laid BY PROGRAM, IN A SANDBOX (cutbox-rows.mjs): the forced cells as the released guide's own fill.sh prints them over the translation 405a8c0c753a8148… (all of the seat's roots in one cut). By AI agents, Wed Nov 11 2026. No macro, syntax, notation, axiom, sorry.
-/
import Derived.Test.Qxb6612389aFmtChecked
import GoSem.Claim
import GoSem.ClaimJoined
import GoSem.ClaimMapViews
import Derived.JoinedTies
import Derived.KernelRfl
namespace Go.Proofs.Qxb6612389aFmt
/- THE CELL 'sum', in the pinned program and in every row, IS THE sha256 OF THE DUMP (.gsa) THAT Qxb6612389aFmtProg.lean LOADS. Nothing in Lean hashes anything: it is a label: what it is worth is what the hold of that sum in a sandbox is worth. -/
noncomputable def Tryf.pinned : Pinned := { name := "qxb6612389afmt", sum := "405a8c0c753a8148629f2d28c96df83334ec965fe39dfd1b9b574b6d37185105", checked := Tryf.checked }
namespace Rows
def none {H : Type} : Left H := { results := [], args := [] }

/-- 'zzlaws_root_b1.FnSignOnEndpointPicksFirstServedBinding': WHATEVER THE INPUT: true; the input reads as it did. -/
def fnSignOnEndpointPicksFirstServedBindingSpec : ChangeSpec := { name := "fnSignOnEndpointPicksFirstServedBinding", fn := fun _ => fun
  | [d1, d2, d3, d4] => { results := [.lit (.bool true)], args := [d1, d2, d3, d4] }
  | _ => none }
def fnSignOnEndpointPicksFirstServedBindingRow : OpenClaim := { program := "qxb6612389afmt", sum := "405a8c0c753a8148629f2d28c96df83334ec965fe39dfd1b9b574b6d37185105", func := "example.com/attestant/attestant/zzlaws_root_b1.FnSignOnEndpointPicksFirstServedBinding", spec := "fnSignOnEndpointPicksFirstServedBinding", stops := ["fmt.errorf"], inPlace := ["internal/abi.NoEscape", "internal/bytealg.MakeNoZero", "fmt.errorf"], apart := false }
/-- NO THEOREM (fmt's text is open here; it may be false): for the released tool's asking of the row's closed facts alone. THE STATEMENT IS 'FnSignOnEndpointPicksFirstServedBindingToldSaid' (Qxb6612389aFmtCards.lean). -/
def FnSignOnEndpointPicksFirstServedBindingFormAsk : Prop := fnSignOnEndpointPicksFirstServedBindingRow.holds Tryf.pinned (OpenSpec.ofChange fnSignOnEndpointPicksFirstServedBindingSpec)

/-- ITS FALSE NEIGHBOUR: 'it returns false'. Refute it at one input. -/
def fnSignOnEndpointPicksFirstServedBindingWrong : ChangeSpec := { name := "fnSignOnEndpointPicksFirstServedBinding", fn := fun _ => fun
  | [d1, d2, d3, d4] => { results := [.lit (.bool false)], args := [d1, d2, d3, d4] }
  | _ => none }
def FnSignOnEndpointPicksFirstServedBindingWrongFormAsk : Prop := fnSignOnEndpointPicksFirstServedBindingRow.holds Tryf.pinned (OpenSpec.ofChange fnSignOnEndpointPicksFirstServedBindingWrong)

/-- 'zzlaws_root_b1.FnSignOnEndpointRefusesExactlyWhenNothingServes': WHATEVER THE INPUT: true; the input reads as it did. -/
def fnSignOnEndpointRefusesExactlyWhenNothingServesSpec : ChangeSpec := { name := "fnSignOnEndpointRefusesExactlyWhenNothingServes", fn := fun _ => fun
  | [d1, d2, d3, d4] => { results := [.lit (.bool true)], args := [d1, d2, d3, d4] }
  | _ => none }
def fnSignOnEndpointRefusesExactlyWhenNothingServesRow : OpenClaim := { program := "qxb6612389afmt", sum := "405a8c0c753a8148629f2d28c96df83334ec965fe39dfd1b9b574b6d37185105", func := "example.com/attestant/attestant/zzlaws_root_b1.FnSignOnEndpointRefusesExactlyWhenNothingServes", spec := "fnSignOnEndpointRefusesExactlyWhenNothingServes", stops := ["fmt.errorf"], inPlace := ["internal/abi.NoEscape", "internal/bytealg.MakeNoZero", "fmt.errorf"], apart := false }
/-- NO THEOREM (fmt's text is open here; it may be false): for the released tool's asking of the row's closed facts alone. THE STATEMENT IS 'FnSignOnEndpointRefusesExactlyWhenNothingServesToldSaid' (Qxb6612389aFmtCards.lean). -/
def FnSignOnEndpointRefusesExactlyWhenNothingServesFormAsk : Prop := fnSignOnEndpointRefusesExactlyWhenNothingServesRow.holds Tryf.pinned (OpenSpec.ofChange fnSignOnEndpointRefusesExactlyWhenNothingServesSpec)

/-- ITS FALSE NEIGHBOUR: 'it returns false'. Refute it at one input. -/
def fnSignOnEndpointRefusesExactlyWhenNothingServesWrong : ChangeSpec := { name := "fnSignOnEndpointRefusesExactlyWhenNothingServes", fn := fun _ => fun
  | [d1, d2, d3, d4] => { results := [.lit (.bool false)], args := [d1, d2, d3, d4] }
  | _ => none }
def FnSignOnEndpointRefusesExactlyWhenNothingServesWrongFormAsk : Prop := fnSignOnEndpointRefusesExactlyWhenNothingServesRow.holds Tryf.pinned (OpenSpec.ofChange fnSignOnEndpointRefusesExactlyWhenNothingServesWrong)

end Rows
end Go.Proofs.Qxb6612389aFmt
