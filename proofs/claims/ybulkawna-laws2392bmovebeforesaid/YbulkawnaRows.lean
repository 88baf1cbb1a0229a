/-
  No cell of these rows narrows 'for every input' (looked for: loops, veiled, ifaces, maps, wideKeys, modest, calm, conditions, laid).
  DERIVED. THE GIVEN ROWS OF THIS SEAT. 6 by the template 'for every input the law returns true; each argument reads behind the call as it read before'; 0 by the template 'total and deterministic' (their statements: YbulkawnaTotals.lean).
  GIVEN WITH THE SEED: the statements are not yours to turn. If you find one false, say at which input.
  Laid BY PROGRAM, IN A SANDBOX (cutbox-rows.mjs): the forced cells as the released guide's own fill.sh prints them over the translation fa00f50e6d660406… (all of the seat's roots in one cut). By AI agents, Wed Nov 11 2026. No macro, syntax, notation, axiom, sorry.
-/
import Derived.Test.YbulkawnaChecked
import GoSem.Claim
import GoSem.ClaimJoined
import GoSem.ClaimMapViews
import Derived.JoinedTies
import Derived.KernelRfl
namespace Go.Proofs.Ybulkawna
/- THE CELL 'sum', in the pinned program and in every row, IS THE sha256 OF THE DUMP (.gsa) THAT YbulkawnaProg.lean LOADS. Nothing in Lean hashes anything: it is a label: what it is worth is what the hold of that sum in a sandbox is worth. -/
noncomputable def Yba.pinned : Pinned := { name := "ybulkawna", sum := "fa00f50e6d660406dda31c9d2d7ee22a3036a318b127ae1b605358f397ef1357", checked := Yba.checked }
namespace Rows
def none {H : Type} : Left H := { results := [], args := [] }

/-- 'horae.LawS2392AStrongPassThrough': WHATEVER THE INPUT: true; the input reads as it did. -/
def lawS2392AStrongPassThroughSpec : ChangeSpec := { name := "lawS2392AStrongPassThrough", fn := fun _ => fun
  | [d] => { results := [.lit (.bool true)], args := [d] }
  | _ => none }
def lawS2392AStrongPassThroughRow : OpenClaim := { program := "ybulkawna", sum := "fa00f50e6d660406dda31c9d2d7ee22a3036a318b127ae1b605358f397ef1357", func := "example.com/horae/horae.LawS2392AStrongPassThrough", spec := "lawS2392AStrongPassThrough", unfollowed := true, recurses := true, apart := false }
def LawS2392AStrongPassThroughSaid : Prop := lawS2392AStrongPassThroughRow.holds Yba.pinned (OpenSpec.ofChange lawS2392AStrongPassThroughSpec)

/-- ITS FALSE NEIGHBOUR: 'it returns false'. Refute it at one input. -/
def lawS2392AStrongPassThroughWrong : ChangeSpec := { name := "lawS2392AStrongPassThrough", fn := fun _ => fun
  | [d] => { results := [.lit (.bool false)], args := [d] }
  | _ => none }
def LawS2392AStrongPassThroughWrongFalsely : Prop := lawS2392AStrongPassThroughRow.holds Yba.pinned (OpenSpec.ofChange lawS2392AStrongPassThroughWrong)

/-- 'horae.LawS2392AListed': WHATEVER THE INPUT: true; the input reads as it did. -/
def lawS2392AListedSpec : ChangeSpec := { name := "lawS2392AListed", fn := fun _ => fun
  | [d1, d2, d3] => { results := [.lit (.bool true)], args := [d1, d2, d3] }
  | _ => none }
def lawS2392AListedRow : OpenClaim := { program := "ybulkawna", sum := "fa00f50e6d660406dda31c9d2d7ee22a3036a318b127ae1b605358f397ef1357", func := "example.com/horae/horae.LawS2392AListed", spec := "lawS2392AListed", unfollowed := true, recurses := true, apart := false }
def LawS2392AListedSaid : Prop := lawS2392AListedRow.holds Yba.pinned (OpenSpec.ofChange lawS2392AListedSpec)

/-- ITS FALSE NEIGHBOUR: 'it returns false'. Refute it at one input. -/
def lawS2392AListedWrong : ChangeSpec := { name := "lawS2392AListed", fn := fun _ => fun
  | [d1, d2, d3] => { results := [.lit (.bool false)], args := [d1, d2, d3] }
  | _ => none }
def LawS2392AListedWrongFalsely : Prop := lawS2392AListedRow.holds Yba.pinned (OpenSpec.ofChange lawS2392AListedWrong)

/-- 'horae.LawS2392ABuilt': WHATEVER THE INPUT: true; the input reads as it did. -/
def lawS2392ABuiltSpec : ChangeSpec := { name := "lawS2392ABuilt", fn := fun _ => fun
  | [d1, d2, d3, d4] => { results := [.lit (.bool true)], args := [d1, d2, d3, d4] }
  | _ => none }
def lawS2392ABuiltRow : OpenClaim := { program := "ybulkawna", sum := "fa00f50e6d660406dda31c9d2d7ee22a3036a318b127ae1b605358f397ef1357", func := "example.com/horae/horae.LawS2392ABuilt", spec := "lawS2392ABuilt", unfollowed := true, recurses := true, apart := false }
def LawS2392ABuiltSaid : Prop := lawS2392ABuiltRow.holds Yba.pinned (OpenSpec.ofChange lawS2392ABuiltSpec)

/-- ITS FALSE NEIGHBOUR: 'it returns false'. Refute it at one input. -/
def lawS2392ABuiltWrong : ChangeSpec := { name := "lawS2392ABuilt", fn := fun _ => fun
  | [d1, d2, d3, d4] => { results := [.lit (.bool false)], args := [d1, d2, d3, d4] }
  | _ => none }
def LawS2392ABuiltWrongFalsely : Prop := lawS2392ABuiltRow.holds Yba.pinned (OpenSpec.ofChange lawS2392ABuiltWrong)

/-- 'horae.LawS2392BMoveBefore': WHATEVER THE INPUT: true; the input reads as it did. -/
def lawS2392BMoveBeforeSpec : ChangeSpec := { name := "lawS2392BMoveBefore", fn := fun _ => fun
  | [d1, d2, d3, d4] => { results := [.lit (.bool true)], args := [d1, d2, d3, d4] }
  | _ => none }
def lawS2392BMoveBeforeRow : OpenClaim := { program := "ybulkawna", sum := "fa00f50e6d660406dda31c9d2d7ee22a3036a318b127ae1b605358f397ef1357", func := "example.com/horae/horae.LawS2392BMoveBefore", spec := "lawS2392BMoveBefore", apart := false }
def LawS2392BMoveBeforeSaid : Prop := lawS2392BMoveBeforeRow.holds Yba.pinned (OpenSpec.ofChange lawS2392BMoveBeforeSpec)

/-- ITS FALSE NEIGHBOUR: 'it returns false'. Refute it at one input. -/
def lawS2392BMoveBeforeWrong : ChangeSpec := { name := "lawS2392BMoveBefore", fn := fun _ => fun
  | [d1, d2, d3, d4] => { results := [.lit (.bool false)], args := [d1, d2, d3, d4] }
  | _ => none }
def LawS2392BMoveBeforeWrongFalsely : Prop := lawS2392BMoveBeforeRow.holds Yba.pinned (OpenSpec.ofChange lawS2392BMoveBeforeWrong)

/-- 'horae.LawS2392CLocate': WHATEVER THE INPUT: true; the input reads as it did. -/
def lawS2392CLocateSpec : ChangeSpec := { name := "lawS2392CLocate", fn := fun _ => fun
  | [d1, d2, d3, d4, d5] => { results := [.lit (.bool true)], args := [d1, d2, d3, d4, d5] }
  | _ => none }
def lawS2392CLocateRow : OpenClaim := { program := "ybulkawna", sum := "fa00f50e6d660406dda31c9d2d7ee22a3036a318b127ae1b605358f397ef1357", func := "example.com/horae/horae.LawS2392CLocate", spec := "lawS2392CLocate", apart := false }
def LawS2392CLocateSaid : Prop := lawS2392CLocateRow.holds Yba.pinned (OpenSpec.ofChange lawS2392CLocateSpec)

/-- ITS FALSE NEIGHBOUR: 'it returns false'. Refute it at one input. -/
def lawS2392CLocateWrong : ChangeSpec := { name := "lawS2392CLocate", fn := fun _ => fun
  | [d1, d2, d3, d4, d5] => { results := [.lit (.bool false)], args := [d1, d2, d3, d4, d5] }
  | _ => none }
def LawS2392CLocateWrongFalsely : Prop := lawS2392CLocateRow.holds Yba.pinned (OpenSpec.ofChange lawS2392CLocateWrong)

/-- 'horae.LawS2392CExact': WHATEVER THE INPUT: true; the input reads as it did. -/
def lawS2392CExactSpec : ChangeSpec := { name := "lawS2392CExact", fn := fun _ => fun
  | [d1, d2, d3, d4, d5] => { results := [.lit (.bool true)], args := [d1, d2, d3, d4, d5] }
  | _ => none }
def lawS2392CExactRow : OpenClaim := { program := "ybulkawna", sum := "fa00f50e6d660406dda31c9d2d7ee22a3036a318b127ae1b605358f397ef1357", func := "example.com/horae/horae.LawS2392CExact", spec := "lawS2392CExact", apart := false }
def LawS2392CExactSaid : Prop := lawS2392CExactRow.holds Yba.pinned (OpenSpec.ofChange lawS2392CExactSpec)

/-- ITS FALSE NEIGHBOUR: 'it returns false'. Refute it at one input. -/
def lawS2392CExactWrong : ChangeSpec := { name := "lawS2392CExact", fn := fun _ => fun
  | [d1, d2, d3, d4, d5] => { results := [.lit (.bool false)], args := [d1, d2, d3, d4, d5] }
  | _ => none }
def LawS2392CExactWrongFalsely : Prop := lawS2392CExactRow.holds Yba.pinned (OpenSpec.ofChange lawS2392CExactWrong)

end Rows
end Go.Proofs.Ybulkawna
