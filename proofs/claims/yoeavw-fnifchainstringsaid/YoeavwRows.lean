/-
  No cell of these rows narrows 'for every input' (looked for: loops, veiled, ifaces, maps, wideKeys, modest, calm, conditions, laid).
  DERIVED. THE GIVEN ROWS OF THIS SEAT. 2 by the template 'for every input the law returns true; each argument reads behind the call as it read before'; 0 by the template 'total and deterministic' (their statements: YoeavwTotals.lean).
  GIVEN WITH THE SEED: the statements are not yours to turn. If you find one false, say at which input.
  Laid BY PROGRAM, IN A SANDBOX (cutbox-rows.mjs): the forced cells as the released guide's own fill.sh prints them over the translation 6bb68759599e95c5… (all of the seat's roots in one cut). By AI agents, Wed Nov 11 2026. No macro, syntax, notation, axiom, sorry.
-/
import Derived.Test.YoeavwChecked
import GoSem.Claim
import GoSem.ClaimJoined
import GoSem.ClaimMapViews
import Derived.JoinedTies
import Derived.KernelRfl
namespace Go.Proofs.Yoeavw
/- THE CELL 'sum', in the pinned program and in every row, IS THE sha256 OF THE DUMP (.gsa) THAT YoeavwProg.lean LOADS. Nothing in Lean hashes anything: it is a label: what it is worth is what the hold of that sum in a sandbox is worth. -/
noncomputable def Eavg.pinned : Pinned := { name := "yoeavw", sum := "6bb68759599e95c5d2a9a2fd21b0d9e49518807b0fec3ae5d3395ef0d4d1ae4a", checked := Eavg.checked }
namespace Rows
def none {H : Type} : Left H := { results := [], args := [] }

/-- 'zzlaws_parser_b61.FnIfChainString': WHATEVER THE INPUT: true; the input reads as it did. -/
def fnIfChainStringSpec : ChangeSpec := { name := "fnIfChainString", fn := fun _ => fun
  | [d1, d2, d3, d4] => { results := [.lit (.bool true)], args := [d1, d2, d3, d4] }
  | _ => none }
def fnIfChainStringRow : OpenClaim := { program := "yoeavw", sum := "6bb68759599e95c5d2a9a2fd21b0d9e49518807b0fec3ae5d3395ef0d4d1ae4a", func := "github.com/d5/tengo/v2/zzlaws_parser_b61.FnIfChainString", spec := "fnIfChainString", inPlace := ["internal/abi.NoEscape", "internal/bytealg.MakeNoZero"], unfollowed := true, recurses := true, apart := false }
def FnIfChainStringSaid : Prop := fnIfChainStringRow.holds Eavg.pinned (OpenSpec.ofChange fnIfChainStringSpec)

/-- ITS FALSE NEIGHBOUR: 'it returns false'. Refute it at one input. -/
def fnIfChainStringWrong : ChangeSpec := { name := "fnIfChainString", fn := fun _ => fun
  | [d1, d2, d3, d4] => { results := [.lit (.bool false)], args := [d1, d2, d3, d4] }
  | _ => none }
def FnIfChainStringWrongFalsely : Prop := fnIfChainStringRow.holds Eavg.pinned (OpenSpec.ofChange fnIfChainStringWrong)

/-- 'zzlaws_parser_b61.FnIfStmtStringInit': WHATEVER THE INPUT: true; the input reads as it did. -/
def fnIfStmtStringInitSpec : ChangeSpec := { name := "fnIfStmtStringInit", fn := fun _ => fun
  | [d1, d2, d3, d4, d5] => { results := [.lit (.bool true)], args := [d1, d2, d3, d4, d5] }
  | _ => none }
def fnIfStmtStringInitRow : OpenClaim := { program := "yoeavw", sum := "6bb68759599e95c5d2a9a2fd21b0d9e49518807b0fec3ae5d3395ef0d4d1ae4a", func := "github.com/d5/tengo/v2/zzlaws_parser_b61.FnIfStmtStringInit", spec := "fnIfStmtStringInit", inPlace := ["internal/abi.NoEscape", "internal/bytealg.MakeNoZero"], unfollowed := true, recurses := true, apart := false }
def FnIfStmtStringInitSaid : Prop := fnIfStmtStringInitRow.holds Eavg.pinned (OpenSpec.ofChange fnIfStmtStringInitSpec)

/-- ITS FALSE NEIGHBOUR: 'it returns false'. Refute it at one input. -/
def fnIfStmtStringInitWrong : ChangeSpec := { name := "fnIfStmtStringInit", fn := fun _ => fun
  | [d1, d2, d3, d4, d5] => { results := [.lit (.bool false)], args := [d1, d2, d3, d4, d5] }
  | _ => none }
def FnIfStmtStringInitWrongFalsely : Prop := fnIfStmtStringInitRow.holds Eavg.pinned (OpenSpec.ofChange fnIfStmtStringInitWrong)

end Rows
end Go.Proofs.Yoeavw
