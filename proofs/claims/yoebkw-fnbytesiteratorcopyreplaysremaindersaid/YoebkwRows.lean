/-
  No cell of these rows narrows 'for every input' (looked for: loops, veiled, ifaces, maps, wideKeys, modest, calm, conditions, laid).
  DERIVED. THE GIVEN ROWS OF THIS SEAT. 2 by the template 'for every input the law returns true; each argument reads behind the call as it read before'; 0 by the template 'total and deterministic' (their statements: YoebkwTotals.lean).
  GIVEN WITH THE SEED: the statements are not yours to turn. If you find one false, say at which input.
  Laid BY PROGRAM, IN A SANDBOX (cutbox-rows.mjs): the forced cells as the released guide's own fill.sh prints them over the translation c1f42302f77bf179… (all of the seat's roots in one cut). By AI agents, Wed Nov 11 2026. No macro, syntax, notation, axiom, sorry.
-/
import Derived.Test.YoebkwChecked
import GoSem.Claim
import GoSem.ClaimJoined
import GoSem.ClaimMapViews
import Derived.JoinedTies
import Derived.KernelRfl
namespace Go.Proofs.Yoebkw
/- THE CELL 'sum', in the pinned program and in every row, IS THE sha256 OF THE DUMP (.gsa) THAT YoebkwProg.lean LOADS. Nothing in Lean hashes anything: it is a label: what it is worth is what the hold of that sum in a sandbox is worth. -/
noncomputable def Ebkg.pinned : Pinned := { name := "yoebkw", sum := "c1f42302f77bf179d8a9b04bd145ef0093f974d604b1d3694e8a8b86433cbe87", checked := Ebkg.checked }
namespace Rows
def none {H : Type} : Left H := { results := [], args := [] }

/-- 'zzlaws_root_b3.FnBytesIteratorCopyReplaysRemainder': WHATEVER THE INPUT: true; the input reads as it did. -/
def fnBytesIteratorCopyReplaysRemainderSpec : ChangeSpec := { name := "fnBytesIteratorCopyReplaysRemainder", fn := fun _ => fun
  | [d1, d2] => { results := [.lit (.bool true)], args := [d1, d2] }
  | _ => none }
def fnBytesIteratorCopyReplaysRemainderRow : OpenClaim := { program := "yoebkw", sum := "c1f42302f77bf179d8a9b04bd145ef0093f974d604b1d3694e8a8b86433cbe87", func := "github.com/d5/tengo/v2/zzlaws_root_b3.FnBytesIteratorCopyReplaysRemainder", spec := "fnBytesIteratorCopyReplaysRemainder", unfollowed := true, recurses := true, apart := false }
def FnBytesIteratorCopyReplaysRemainderSaid : Prop := fnBytesIteratorCopyReplaysRemainderRow.holds Ebkg.pinned (OpenSpec.ofChange fnBytesIteratorCopyReplaysRemainderSpec)

/-- ITS FALSE NEIGHBOUR: 'it returns false'. Refute it at one input. -/
def fnBytesIteratorCopyReplaysRemainderWrong : ChangeSpec := { name := "fnBytesIteratorCopyReplaysRemainder", fn := fun _ => fun
  | [d1, d2] => { results := [.lit (.bool false)], args := [d1, d2] }
  | _ => none }
def FnBytesIteratorCopyReplaysRemainderWrongFalsely : Prop := fnBytesIteratorCopyReplaysRemainderRow.holds Ebkg.pinned (OpenSpec.ofChange fnBytesIteratorCopyReplaysRemainderWrong)

/-- 'zzlaws_root_b3.FnBytesIteratorCopyCommutesWithNext': WHATEVER THE INPUT: true; the input reads as it did. -/
def fnBytesIteratorCopyCommutesWithNextSpec : ChangeSpec := { name := "fnBytesIteratorCopyCommutesWithNext", fn := fun _ => fun
  | [d1, d2, d3] => { results := [.lit (.bool true)], args := [d1, d2, d3] }
  | _ => none }
def fnBytesIteratorCopyCommutesWithNextRow : OpenClaim := { program := "yoebkw", sum := "c1f42302f77bf179d8a9b04bd145ef0093f974d604b1d3694e8a8b86433cbe87", func := "github.com/d5/tengo/v2/zzlaws_root_b3.FnBytesIteratorCopyCommutesWithNext", spec := "fnBytesIteratorCopyCommutesWithNext", apart := false }
def FnBytesIteratorCopyCommutesWithNextSaid : Prop := fnBytesIteratorCopyCommutesWithNextRow.holds Ebkg.pinned (OpenSpec.ofChange fnBytesIteratorCopyCommutesWithNextSpec)

/-- ITS FALSE NEIGHBOUR: 'it returns false'. Refute it at one input. -/
def fnBytesIteratorCopyCommutesWithNextWrong : ChangeSpec := { name := "fnBytesIteratorCopyCommutesWithNext", fn := fun _ => fun
  | [d1, d2, d3] => { results := [.lit (.bool false)], args := [d1, d2, d3] }
  | _ => none }
def FnBytesIteratorCopyCommutesWithNextWrongFalsely : Prop := fnBytesIteratorCopyCommutesWithNextRow.holds Ebkg.pinned (OpenSpec.ofChange fnBytesIteratorCopyCommutesWithNextWrong)

end Rows
end Go.Proofs.Yoebkw
