/-
  No cell of these rows narrows 'for every input' (looked for: loops, veiled, ifaces, maps, wideKeys, modest, calm, conditions, laid).
  DERIVED. THE GIVEN ROWS OF THIS SEAT. 4 by the template 'for every input the law returns true; each argument reads behind the call as it read before'; 0 by the template 'total and deterministic' (their statements: YoealwTotals.lean).
  GIVEN WITH THE SEED: the statements are not yours to turn. If you find one false, say at which input.
  Laid BY PROGRAM, IN A SANDBOX (cutbox-rows.mjs): the forced cells as the released guide's own fill.sh prints them over the translation f1ac6ac3d315c6af… (all of the seat's roots in one cut). By AI agents, Wed Nov 11 2026. No macro, syntax, notation, axiom, sorry.
-/
import Derived.Test.YoealwChecked
import GoSem.Claim
import GoSem.ClaimJoined
import GoSem.ClaimMapViews
import Derived.JoinedTies
import Derived.KernelRfl
namespace Go.Proofs.Yoealw
/- THE CELL 'sum', in the pinned program and in every row, IS THE sha256 OF THE DUMP (.gsa) THAT YoealwProg.lean LOADS. Nothing in Lean hashes anything: it is a label: what it is worth is what the hold of that sum in a sandbox is worth. -/
noncomputable def Ealg.pinned : Pinned := { name := "yoealw", sum := "f1ac6ac3d315c6aff6a85f60f3ec6b13db530ea405a168faaf889d2d3efc74ed", checked := Ealg.checked }
namespace Rows
def none {H : Type} : Left H := { results := [], args := [] }

/-- 'zzlaws_root_b2.FnBytesIsFalsyIffEqualsEmpty': WHATEVER THE INPUT: true; the input reads as it did. -/
def fnBytesIsFalsyIffEqualsEmptySpec : ChangeSpec := { name := "fnBytesIsFalsyIffEqualsEmpty", fn := fun _ => fun
  | [d] => { results := [.lit (.bool true)], args := [d] }
  | _ => none }
def fnBytesIsFalsyIffEqualsEmptyRow : OpenClaim := { program := "yoealw", sum := "f1ac6ac3d315c6aff6a85f60f3ec6b13db530ea405a168faaf889d2d3efc74ed", func := "github.com/d5/tengo/v2/zzlaws_root_b2.FnBytesIsFalsyIffEqualsEmpty", spec := "fnBytesIsFalsyIffEqualsEmpty", unfollowed := true, recurses := true, apart := false }
def FnBytesIsFalsyIffEqualsEmptySaid : Prop := fnBytesIsFalsyIffEqualsEmptyRow.holds Ealg.pinned (OpenSpec.ofChange fnBytesIsFalsyIffEqualsEmptySpec)

/-- ITS FALSE NEIGHBOUR: 'it returns false'. Refute it at one input. -/
def fnBytesIsFalsyIffEqualsEmptyWrong : ChangeSpec := { name := "fnBytesIsFalsyIffEqualsEmpty", fn := fun _ => fun
  | [d] => { results := [.lit (.bool false)], args := [d] }
  | _ => none }
def FnBytesIsFalsyIffEqualsEmptyWrongFalsely : Prop := fnBytesIsFalsyIffEqualsEmptyRow.holds Ealg.pinned (OpenSpec.ofChange fnBytesIsFalsyIffEqualsEmptyWrong)

/-- 'zzlaws_root_b2.FnBytesEqualsModel': WHATEVER THE INPUT: true; the input reads as it did. -/
def fnBytesEqualsModelSpec : ChangeSpec := { name := "fnBytesEqualsModel", fn := fun _ => fun
  | [d1, d2] => { results := [.lit (.bool true)], args := [d1, d2] }
  | _ => none }
def fnBytesEqualsModelRow : OpenClaim := { program := "yoealw", sum := "f1ac6ac3d315c6aff6a85f60f3ec6b13db530ea405a168faaf889d2d3efc74ed", func := "github.com/d5/tengo/v2/zzlaws_root_b2.FnBytesEqualsModel", spec := "fnBytesEqualsModel", apart := false }
def FnBytesEqualsModelSaid : Prop := fnBytesEqualsModelRow.holds Ealg.pinned (OpenSpec.ofChange fnBytesEqualsModelSpec)

/-- ITS FALSE NEIGHBOUR: 'it returns false'. Refute it at one input. -/
def fnBytesEqualsModelWrong : ChangeSpec := { name := "fnBytesEqualsModel", fn := fun _ => fun
  | [d1, d2] => { results := [.lit (.bool false)], args := [d1, d2] }
  | _ => none }
def FnBytesEqualsModelWrongFalsely : Prop := fnBytesEqualsModelRow.holds Ealg.pinned (OpenSpec.ofChange fnBytesEqualsModelWrong)

/-- 'zzlaws_root_b2.FnBytesEqualsCopyNotOtherTypes': WHATEVER THE INPUT: true; the input reads as it did. -/
def fnBytesEqualsCopyNotOtherTypesSpec : ChangeSpec := { name := "fnBytesEqualsCopyNotOtherTypes", fn := fun _ => fun
  | [d1, d2] => { results := [.lit (.bool true)], args := [d1, d2] }
  | _ => none }
def fnBytesEqualsCopyNotOtherTypesRow : OpenClaim := { program := "yoealw", sum := "f1ac6ac3d315c6aff6a85f60f3ec6b13db530ea405a168faaf889d2d3efc74ed", func := "github.com/d5/tengo/v2/zzlaws_root_b2.FnBytesEqualsCopyNotOtherTypes", spec := "fnBytesEqualsCopyNotOtherTypes", unfollowed := true, recurses := true, apart := false }
def FnBytesEqualsCopyNotOtherTypesSaid : Prop := fnBytesEqualsCopyNotOtherTypesRow.holds Ealg.pinned (OpenSpec.ofChange fnBytesEqualsCopyNotOtherTypesSpec)

/-- ITS FALSE NEIGHBOUR: 'it returns false'. Refute it at one input. -/
def fnBytesEqualsCopyNotOtherTypesWrong : ChangeSpec := { name := "fnBytesEqualsCopyNotOtherTypes", fn := fun _ => fun
  | [d1, d2] => { results := [.lit (.bool false)], args := [d1, d2] }
  | _ => none }
def FnBytesEqualsCopyNotOtherTypesWrongFalsely : Prop := fnBytesEqualsCopyNotOtherTypesRow.holds Ealg.pinned (OpenSpec.ofChange fnBytesEqualsCopyNotOtherTypesWrong)

/-- 'zzlaws_root_b2.FnBytesIterateSnapshotLength': WHATEVER THE INPUT: true; the input reads as it did. -/
def fnBytesIterateSnapshotLengthSpec : ChangeSpec := { name := "fnBytesIterateSnapshotLength", fn := fun _ => fun
  | [d1, d2, d3] => { results := [.lit (.bool true)], args := [d1, d2, d3] }
  | _ => none }
def fnBytesIterateSnapshotLengthRow : OpenClaim := { program := "yoealw", sum := "f1ac6ac3d315c6aff6a85f60f3ec6b13db530ea405a168faaf889d2d3efc74ed", func := "github.com/d5/tengo/v2/zzlaws_root_b2.FnBytesIterateSnapshotLength", spec := "fnBytesIterateSnapshotLength", unfollowed := true, recurses := true, apart := false }
def FnBytesIterateSnapshotLengthSaid : Prop := fnBytesIterateSnapshotLengthRow.holds Ealg.pinned (OpenSpec.ofChange fnBytesIterateSnapshotLengthSpec)

/-- ITS FALSE NEIGHBOUR: 'it returns false'. Refute it at one input. -/
def fnBytesIterateSnapshotLengthWrong : ChangeSpec := { name := "fnBytesIterateSnapshotLength", fn := fun _ => fun
  | [d1, d2, d3] => { results := [.lit (.bool false)], args := [d1, d2, d3] }
  | _ => none }
def FnBytesIterateSnapshotLengthWrongFalsely : Prop := fnBytesIterateSnapshotLengthRow.holds Ealg.pinned (OpenSpec.ofChange fnBytesIterateSnapshotLengthWrong)

end Rows
end Go.Proofs.Yoealw
