/-
  No cell of these rows narrows 'for every input' (looked for: loops, veiled, ifaces, maps, wideKeys, modest, calm, conditions, laid).
  DERIVED. THE GIVEN ROWS OF THIS SEAT. 3 by the template 'for every input the law returns true; each argument reads behind the call as it read before'; 0 by the template 'total and deterministic' (their statements: Qxb6604234aTotals.lean).
  GIVEN WITH THE SEED: the statements are not yours to turn. If you find one false, say at which input.
  Laid BY PROGRAM, IN A SANDBOX (cutbox-rows.mjs): the forced cells as the released guide's own fill.sh prints them over the translation 419991e5b4600358… (all of the seat's roots in one cut). By AI agents, Wed Nov 11 2026. No macro, syntax, notation, axiom, sorry.
-/
import Derived.Test.Qxb6604234aChecked
import GoSem.Claim
import GoSem.ClaimJoined
import GoSem.ClaimMapViews
import Derived.JoinedTies
import Derived.KernelRfl
namespace Go.Proofs.Qxb6604234a
/- THE CELL 'sum', in the pinned program and in every row, IS THE sha256 OF THE DUMP (.gsa) THAT Qxb6604234aProg.lean LOADS. Nothing in Lean hashes anything: it is a label: what it is worth is what the hold of that sum in a sandbox is worth. -/
noncomputable def Try.pinned : Pinned := { name := "qxb6604234a", sum := "419991e5b4600358ac2db7372c6b80a54a46fb9f1f6058f8cc5ec81bafb92adf", checked := Try.checked }
namespace Rows
def none {H : Type} : Left H := { results := [], args := [] }

/-- 'zzlaws_internal_verify_b1.FnMissingIsFirstKAbsentNumbers': WHATEVER THE INPUT: true; the input reads as it did. -/
def fnMissingIsFirstKAbsentNumbersSpec : ChangeSpec := { name := "fnMissingIsFirstKAbsentNumbers", fn := fun _ => fun
  | [d1, d2, d3, d4] => { results := [.lit (.bool true)], args := [d1, d2, d3, d4] }
  | _ => none }
def fnMissingIsFirstKAbsentNumbersRow : OpenClaim := { program := "qxb6604234a", sum := "419991e5b4600358ac2db7372c6b80a54a46fb9f1f6058f8cc5ec81bafb92adf", func := "example.com/coxswain/coxswain/zzlaws_internal_verify_b1.FnMissingIsFirstKAbsentNumbers", spec := "fnMissingIsFirstKAbsentNumbers", apart := false }
def FnMissingIsFirstKAbsentNumbersSaid : Prop := fnMissingIsFirstKAbsentNumbersRow.holds Try.pinned (OpenSpec.ofChange fnMissingIsFirstKAbsentNumbersSpec)

/-- ITS FALSE NEIGHBOUR: 'it returns false'. Refute it at one input. -/
def fnMissingIsFirstKAbsentNumbersWrong : ChangeSpec := { name := "fnMissingIsFirstKAbsentNumbers", fn := fun _ => fun
  | [d1, d2, d3, d4] => { results := [.lit (.bool false)], args := [d1, d2, d3, d4] }
  | _ => none }
def FnMissingIsFirstKAbsentNumbersWrongFalsely : Prop := fnMissingIsFirstKAbsentNumbersRow.holds Try.pinned (OpenSpec.ofChange fnMissingIsFirstKAbsentNumbersWrong)

/-- 'zzlaws_internal_verify_b1.FnFromLaysOutList': WHATEVER THE INPUT: true; the input reads as it did. -/
def fnFromLaysOutListSpec : ChangeSpec := { name := "fnFromLaysOutList", fn := fun _ => fun
  | [d1, d2] => { results := [.lit (.bool true)], args := [d1, d2] }
  | _ => none }
def fnFromLaysOutListRow : OpenClaim := { program := "qxb6604234a", sum := "419991e5b4600358ac2db7372c6b80a54a46fb9f1f6058f8cc5ec81bafb92adf", func := "example.com/coxswain/coxswain/zzlaws_internal_verify_b1.FnFromLaysOutList", spec := "fnFromLaysOutList", inPlace := ["internal/abi.NoEscape", "internal/bytealg.MakeNoZero"], apart := false }
def FnFromLaysOutListSaid : Prop := fnFromLaysOutListRow.holds Try.pinned (OpenSpec.ofChange fnFromLaysOutListSpec)

/-- ITS FALSE NEIGHBOUR: 'it returns false'. Refute it at one input. -/
def fnFromLaysOutListWrong : ChangeSpec := { name := "fnFromLaysOutList", fn := fun _ => fun
  | [d1, d2] => { results := [.lit (.bool false)], args := [d1, d2] }
  | _ => none }
def FnFromLaysOutListWrongFalsely : Prop := fnFromLaysOutListRow.holds Try.pinned (OpenSpec.ofChange fnFromLaysOutListWrong)

/-- 'zzlaws_internal_verify_b1.FnFromReadsBack': WHATEVER THE INPUT: true; the input reads as it did. -/
def fnFromReadsBackSpec : ChangeSpec := { name := "fnFromReadsBack", fn := fun _ => fun
  | [d1, d2] => { results := [.lit (.bool true)], args := [d1, d2] }
  | _ => none }
def fnFromReadsBackRow : OpenClaim := { program := "qxb6604234a", sum := "419991e5b4600358ac2db7372c6b80a54a46fb9f1f6058f8cc5ec81bafb92adf", func := "example.com/coxswain/coxswain/zzlaws_internal_verify_b1.FnFromReadsBack", spec := "fnFromReadsBack", inPlace := ["internal/abi.NoEscape", "internal/bytealg.MakeNoZero"], apart := false }
def FnFromReadsBackSaid : Prop := fnFromReadsBackRow.holds Try.pinned (OpenSpec.ofChange fnFromReadsBackSpec)

/-- ITS FALSE NEIGHBOUR: 'it returns false'. Refute it at one input. -/
def fnFromReadsBackWrong : ChangeSpec := { name := "fnFromReadsBack", fn := fun _ => fun
  | [d1, d2] => { results := [.lit (.bool false)], args := [d1, d2] }
  | _ => none }
def FnFromReadsBackWrongFalsely : Prop := fnFromReadsBackRow.holds Try.pinned (OpenSpec.ofChange fnFromReadsBackWrong)

end Rows
end Go.Proofs.Qxb6604234a
