/-
  No cell of these rows narrows 'for every input' (looked for: loops, veiled, ifaces, maps, wideKeys, modest, calm, conditions, laid).
  DERIVED. THE GIVEN ROWS OF THIS SEAT. 1 by the template 'for every input the law returns true; each argument reads behind the call as it read before'; 0 by the template 'total and deterministic' (their statements: Qxb6608712aFmtTotals.lean).
  GIVEN WITH THE SEED: the statements are not yours to turn. If you find one false, say at which input.
  Laid BY PROGRAM, IN A SANDBOX (cutbox-rows.mjs): the forced cells as the released guide's own fill.sh prints them over the translation 51ce28c15c708857… (all of the seat's roots in one cut). By AI agents, Wed Nov 11 2026. No macro, syntax, notation, axiom, sorry.
-/
import Derived.Test.Qxb6608712aFmtChecked
import GoSem.Claim
import GoSem.ClaimJoined
import GoSem.ClaimMapViews
import Derived.JoinedTies
import Derived.KernelRfl
namespace Go.Proofs.Qxb6608712aFmt
/- THE CELL 'sum', in the pinned program and in every row, IS THE sha256 OF THE DUMP (.gsa) THAT Qxb6608712aFmtProg.lean LOADS. Nothing in Lean hashes anything: it is a label: what it is worth is what the hold of that sum in a sandbox is worth. -/
noncomputable def Tryf.pinned : Pinned := { name := "qxb6608712afmt", sum := "51ce28c15c70885746c58c2eeaed0ecb2d224f8cba5c2dc20442311c86c837bd", checked := Tryf.checked }
namespace Rows
def none {H : Type} : Left H := { results := [], args := [] }

/-- 'zzlaws_internal_xmldoc_b1.FnNewScopeScopesDoNotShare': WHATEVER THE INPUT: true; the input reads as it did. -/
def fnNewScopeScopesDoNotShareSpec : ChangeSpec := { name := "fnNewScopeScopesDoNotShare", fn := fun _ => fun
  | [d1, d2, d3] => { results := [.lit (.bool true)], args := [d1, d2, d3] }
  | _ => none }
def fnNewScopeScopesDoNotShareRow : OpenClaim := { program := "qxb6608712afmt", sum := "51ce28c15c70885746c58c2eeaed0ecb2d224f8cba5c2dc20442311c86c837bd", func := "example.com/plain-claims/plain-claims/zzlaws_internal_xmldoc_b1.FnNewScopeScopesDoNotShare", spec := "fnNewScopeScopesDoNotShare", stops := ["fmt.errorf"], inPlace := ["internal/bytealg.IndexByteString", "internal/bytealg.IndexString", "fmt.errorf"], named := ["internal/bytealg.MaxLen"], apart := false }
/-- NO THEOREM (fmt's text is open here; it may be false): for the released tool's asking of the row's closed facts alone. THE STATEMENT IS 'FnNewScopeScopesDoNotShareToldSaid' (Qxb6608712aFmtCards.lean). -/
def FnNewScopeScopesDoNotShareFormAsk : Prop := fnNewScopeScopesDoNotShareRow.holds Tryf.pinned (OpenSpec.ofChange fnNewScopeScopesDoNotShareSpec)

/-- ITS FALSE NEIGHBOUR: 'it returns false'. Refute it at one input. -/
def fnNewScopeScopesDoNotShareWrong : ChangeSpec := { name := "fnNewScopeScopesDoNotShare", fn := fun _ => fun
  | [d1, d2, d3] => { results := [.lit (.bool false)], args := [d1, d2, d3] }
  | _ => none }
def FnNewScopeScopesDoNotShareWrongFormAsk : Prop := fnNewScopeScopesDoNotShareRow.holds Tryf.pinned (OpenSpec.ofChange fnNewScopeScopesDoNotShareWrong)

end Rows
end Go.Proofs.Qxb6608712aFmt
