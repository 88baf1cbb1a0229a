/-
  No cell of these rows narrows 'for every input' (looked for: loops, veiled, ifaces, maps, wideKeys, modest, calm, conditions, laid).
  DERIVED. THE GIVEN ROWS OF THIS SEAT. 2 by the template 'for every input the law returns true; each argument reads behind the call as it read before'; 0 by the template 'total and deterministic' (their statements: YbulkawocFmtTotals.lean).
  GIVEN WITH THE SEED: the statements are not yours to turn. If you find one false, say at which input.
  Laid BY PROGRAM, IN A SANDBOX (cutbox-rows.mjs): the forced cells as the released guide's own fill.sh prints them over the translation cb1c57e347ae927e… (all of the seat's roots in one cut). By AI agents, Wed Nov 11 2026. No macro, syntax, notation, axiom, sorry.
-/
import Derived.Test.YbulkawocFmtChecked
import GoSem.Claim
import GoSem.ClaimJoined
import GoSem.ClaimMapViews
import Derived.JoinedTies
import Derived.KernelRfl
namespace Go.Proofs.YbulkawocFmt
/- THE CELL 'sum', in the pinned program and in every row, IS THE sha256 OF THE DUMP (.gsa) THAT YbulkawocFmtProg.lean LOADS. Nothing in Lean hashes anything: it is a label: what it is worth is what the hold of that sum in a sandbox is worth. -/
noncomputable def Ybaf.pinned : Pinned := { name := "ybulkawocfmt", sum := "cb1c57e347ae927e10e68886a5478da67caca82db90f87137c4d7cd214579d1a", checked := Ybaf.checked }
namespace Rows
def none {H : Type} : Left H := { results := [], args := [] }

/-- 'ledger.LawS2394CRefuses': WHATEVER THE INPUT: true; the input reads as it did. -/
def lawS2394CRefusesSpec : ChangeSpec := { name := "lawS2394CRefuses", fn := fun _ => fun
  | [d1, d2] => { results := [.lit (.bool true)], args := [d1, d2] }
  | _ => none }
def lawS2394CRefusesRow : OpenClaim := { program := "ybulkawocfmt", sum := "cb1c57e347ae927e10e68886a5478da67caca82db90f87137c4d7cd214579d1a", func := "example.com/lienbook/lienbook/ledger.LawS2394CRefuses", spec := "lawS2394CRefuses", stops := ["fmt.Sprintf"], inPlace := ["fmt.Sprintf"], apart := false }
/-- NO THEOREM (fmt's text is open here; it may be false): for the released tool's asking of the row's closed facts alone. THE STATEMENT IS 'LawS2394CRefusesToldSaid' (YbulkawocFmtCards.lean). -/
def LawS2394CRefusesFormAsk : Prop := lawS2394CRefusesRow.holds Ybaf.pinned (OpenSpec.ofChange lawS2394CRefusesSpec)

/-- ITS FALSE NEIGHBOUR: 'it returns false'. Refute it at one input. -/
def lawS2394CRefusesWrong : ChangeSpec := { name := "lawS2394CRefuses", fn := fun _ => fun
  | [d1, d2] => { results := [.lit (.bool false)], args := [d1, d2] }
  | _ => none }
def LawS2394CRefusesWrongFormAsk : Prop := lawS2394CRefusesRow.holds Ybaf.pinned (OpenSpec.ofChange lawS2394CRefusesWrong)

/-- 'ledger.LawS2394CPartPositive': WHATEVER THE INPUT: true; the input reads as it did. -/
def lawS2394CPartPositiveSpec : ChangeSpec := { name := "lawS2394CPartPositive", fn := fun _ => fun
  | [d1, d2, d3] => { results := [.lit (.bool true)], args := [d1, d2, d3] }
  | _ => none }
def lawS2394CPartPositiveRow : OpenClaim := { program := "ybulkawocfmt", sum := "cb1c57e347ae927e10e68886a5478da67caca82db90f87137c4d7cd214579d1a", func := "example.com/lienbook/lienbook/ledger.LawS2394CPartPositive", spec := "lawS2394CPartPositive", stops := ["fmt.Sprintf"], inPlace := ["fmt.Sprintf"], apart := false }
/-- NO THEOREM (fmt's text is open here; it may be false): for the released tool's asking of the row's closed facts alone. THE STATEMENT IS 'LawS2394CPartPositiveToldSaid' (YbulkawocFmtCards.lean). -/
def LawS2394CPartPositiveFormAsk : Prop := lawS2394CPartPositiveRow.holds Ybaf.pinned (OpenSpec.ofChange lawS2394CPartPositiveSpec)

/-- ITS FALSE NEIGHBOUR: 'it returns false'. Refute it at one input. -/
def lawS2394CPartPositiveWrong : ChangeSpec := { name := "lawS2394CPartPositive", fn := fun _ => fun
  | [d1, d2, d3] => { results := [.lit (.bool false)], args := [d1, d2, d3] }
  | _ => none }
def LawS2394CPartPositiveWrongFormAsk : Prop := lawS2394CPartPositiveRow.holds Ybaf.pinned (OpenSpec.ofChange lawS2394CPartPositiveWrong)

end Rows
end Go.Proofs.YbulkawocFmt
