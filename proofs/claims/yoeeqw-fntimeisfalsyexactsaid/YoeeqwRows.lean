/-
  No cell of these rows narrows 'for every input' (looked for: loops, veiled, ifaces, maps, wideKeys, modest, calm, conditions, laid).
  DERIVED. THE GIVEN ROWS OF THIS SEAT. 2 by the template 'for every input the law returns true; each argument reads behind the call as it read before'; 0 by the template 'total and deterministic' (their statements: YoeeqwTotals.lean).
  GIVEN WITH THE SEED: the statements are not yours to turn. If you find one false, say at which input.
  Laid BY PROGRAM, IN A SANDBOX (cutbox-rows.mjs): the forced cells as the released guide's own fill.sh prints them over the translation 81f778e0ca815386… (all of the seat's roots in one cut). By AI agents, Wed Nov 11 2026. No macro, syntax, notation, axiom, sorry.
-/
import Derived.Test.YoeeqwChecked
import GoSem.Claim
import GoSem.ClaimJoined
import GoSem.ClaimMapViews
import Derived.JoinedTies
import Derived.KernelRfl
namespace Go.Proofs.Yoeeqw
/- THE CELL 'sum', in the pinned program and in every row, IS THE sha256 OF THE DUMP (.gsa) THAT YoeeqwProg.lean LOADS. Nothing in Lean hashes anything: it is a label: what it is worth is what the hold of that sum in a sandbox is worth. -/
noncomputable def Eeqg.pinned : Pinned := { name := "yoeeqw", sum := "81f778e0ca8153862961921176edf8ea11d480be7f19aa93bfbd9d16c1870730", checked := Eeqg.checked }
namespace Rows
def none {H : Type} : Left H := { results := [], args := [] }

/-- 'zzlaws_root_b3.FnTimeIsFalsyExact': WHATEVER THE INPUT: true; the input reads as it did. -/
def fnTimeIsFalsyExactSpec : ChangeSpec := { name := "fnTimeIsFalsyExact", fn := fun _ => fun
  | [d] => { results := [.lit (.bool true)], args := [d] }
  | _ => none }
def fnTimeIsFalsyExactRow : OpenClaim := { program := "yoeeqw", sum := "81f778e0ca8153862961921176edf8ea11d480be7f19aa93bfbd9d16c1870730", func := "github.com/d5/tengo/v2/zzlaws_root_b3.FnTimeIsFalsyExact", spec := "fnTimeIsFalsyExact", apart := false }
def FnTimeIsFalsyExactSaid : Prop := fnTimeIsFalsyExactRow.holds Eeqg.pinned (OpenSpec.ofChange fnTimeIsFalsyExactSpec)

/-- ITS FALSE NEIGHBOUR: 'it returns false'. Refute it at one input. -/
def fnTimeIsFalsyExactWrong : ChangeSpec := { name := "fnTimeIsFalsyExact", fn := fun _ => fun
  | [d] => { results := [.lit (.bool false)], args := [d] }
  | _ => none }
def FnTimeIsFalsyExactWrongFalsely : Prop := fnTimeIsFalsyExactRow.holds Eeqg.pinned (OpenSpec.ofChange fnTimeIsFalsyExactWrong)

/-- 'zzlaws_root_b3.FnTimeCopyExact': WHATEVER THE INPUT: true; the input reads as it did. -/
def fnTimeCopyExactSpec : ChangeSpec := { name := "fnTimeCopyExact", fn := fun _ => fun
  | [d] => { results := [.lit (.bool true)], args := [d] }
  | _ => none }
def fnTimeCopyExactRow : OpenClaim := { program := "yoeeqw", sum := "81f778e0ca8153862961921176edf8ea11d480be7f19aa93bfbd9d16c1870730", func := "github.com/d5/tengo/v2/zzlaws_root_b3.FnTimeCopyExact", spec := "fnTimeCopyExact", unfollowed := true, recurses := true, apart := false }
def FnTimeCopyExactSaid : Prop := fnTimeCopyExactRow.holds Eeqg.pinned (OpenSpec.ofChange fnTimeCopyExactSpec)

/-- ITS FALSE NEIGHBOUR: 'it returns false'. Refute it at one input. -/
def fnTimeCopyExactWrong : ChangeSpec := { name := "fnTimeCopyExact", fn := fun _ => fun
  | [d] => { results := [.lit (.bool false)], args := [d] }
  | _ => none }
def FnTimeCopyExactWrongFalsely : Prop := fnTimeCopyExactRow.holds Eeqg.pinned (OpenSpec.ofChange fnTimeCopyExactWrong)

end Rows
end Go.Proofs.Yoeeqw
