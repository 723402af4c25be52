/-
  No cell of these rows narrows 'for every input' (looked for: loops, veiled, ifaces, maps, wideKeys, modest, calm, conditions, laid).
  DERIVED. THE GIVEN ROWS OF THIS SEAT. 5 by the template 'for every input the law returns true; each argument reads behind the call as it read before'; 0 by the template 'total and deterministic' (their statements: Qxb6600938aTotals.lean).
  GIVEN WITH THE SEED: the statements are not yours to turn. If you find one false, say at which input.
  Laid BY PROGRAM, IN A SANDBOX (cutbox-rows.mjs): the forced cells as the released guide's own fill.sh prints them over the translation ab27a2637b04db1f… (all of the seat's roots in one cut). By AI agents, Wed Nov 11 2026. No macro, syntax, notation, axiom, sorry.
-/
import Derived.Test.Qxb6600938aChecked
import GoSem.Claim
import GoSem.ClaimJoined
import GoSem.ClaimMapViews
import Derived.JoinedTies
import Derived.KernelRfl
namespace Go.Proofs.Qxb6600938a
/- THE CELL 'sum', in the pinned program and in every row, IS THE sha256 OF THE DUMP (.gsa) THAT Qxb6600938aProg.lean LOADS. Nothing in Lean hashes anything: it is a label: what it is worth is what the hold of that sum in a sandbox is worth. -/
noncomputable def Try.pinned : Pinned := { name := "qxb6600938a", sum := "ab27a2637b04db1f98e59653ebf385989fb6435ea4205a3173a93bd2940daa2b", checked := Try.checked }
namespace Rows
def none {H : Type} : Left H := { results := [], args := [] }

/-- 'zzlaws_internal_verify_b1.FnStepPutThenReadBack': WHATEVER THE INPUT: true; the input reads as it did. -/
def fnStepPutThenReadBackSpec : ChangeSpec := { name := "fnStepPutThenReadBack", fn := fun _ => fun
  | [d1, d2, d3, d4, d5] => { results := [.lit (.bool true)], args := [d1, d2, d3, d4, d5] }
  | _ => none }
def fnStepPutThenReadBackRow : OpenClaim := { program := "qxb6600938a", sum := "ab27a2637b04db1f98e59653ebf385989fb6435ea4205a3173a93bd2940daa2b", func := "example.com/highwater/highwater/zzlaws_internal_verify_b1.FnStepPutThenReadBack", spec := "fnStepPutThenReadBack", apart := false }
def FnStepPutThenReadBackSaid : Prop := fnStepPutThenReadBackRow.holds Try.pinned (OpenSpec.ofChange fnStepPutThenReadBackSpec)

/-- ITS FALSE NEIGHBOUR: 'it returns false'. Refute it at one input. -/
def fnStepPutThenReadBackWrong : ChangeSpec := { name := "fnStepPutThenReadBack", fn := fun _ => fun
  | [d1, d2, d3, d4, d5] => { results := [.lit (.bool false)], args := [d1, d2, d3, d4, d5] }
  | _ => none }
def FnStepPutThenReadBackWrongFalsely : Prop := fnStepPutThenReadBackRow.holds Try.pinned (OpenSpec.ofChange fnStepPutThenReadBackWrong)

/-- 'zzlaws_internal_verify_b1.FnStepUnknownPutThenRead': WHATEVER THE INPUT: true; the input reads as it did. -/
def fnStepUnknownPutThenReadSpec : ChangeSpec := { name := "fnStepUnknownPutThenRead", fn := fun _ => fun
  | [d1, d2, d3, d4, d5, d6] => { results := [.lit (.bool true)], args := [d1, d2, d3, d4, d5, d6] }
  | _ => none }
def fnStepUnknownPutThenReadRow : OpenClaim := { program := "qxb6600938a", sum := "ab27a2637b04db1f98e59653ebf385989fb6435ea4205a3173a93bd2940daa2b", func := "example.com/highwater/highwater/zzlaws_internal_verify_b1.FnStepUnknownPutThenRead", spec := "fnStepUnknownPutThenRead", apart := false }
def FnStepUnknownPutThenReadSaid : Prop := fnStepUnknownPutThenReadRow.holds Try.pinned (OpenSpec.ofChange fnStepUnknownPutThenReadSpec)

/-- ITS FALSE NEIGHBOUR: 'it returns false'. Refute it at one input. -/
def fnStepUnknownPutThenReadWrong : ChangeSpec := { name := "fnStepUnknownPutThenRead", fn := fun _ => fun
  | [d1, d2, d3, d4, d5, d6] => { results := [.lit (.bool false)], args := [d1, d2, d3, d4, d5, d6] }
  | _ => none }
def FnStepUnknownPutThenReadWrongFalsely : Prop := fnStepUnknownPutThenReadRow.holds Try.pinned (OpenSpec.ofChange fnStepUnknownPutThenReadWrong)

/-- 'zzlaws_internal_verify_b1.FnStepReadIdempotent': WHATEVER THE INPUT: true; the input reads as it did. -/
def fnStepReadIdempotentSpec : ChangeSpec := { name := "fnStepReadIdempotent", fn := fun _ => fun
  | [d1, d2, d3] => { results := [.lit (.bool true)], args := [d1, d2, d3] }
  | _ => none }
def fnStepReadIdempotentRow : OpenClaim := { program := "qxb6600938a", sum := "ab27a2637b04db1f98e59653ebf385989fb6435ea4205a3173a93bd2940daa2b", func := "example.com/highwater/highwater/zzlaws_internal_verify_b1.FnStepReadIdempotent", spec := "fnStepReadIdempotent", apart := false }
def FnStepReadIdempotentSaid : Prop := fnStepReadIdempotentRow.holds Try.pinned (OpenSpec.ofChange fnStepReadIdempotentSpec)

/-- ITS FALSE NEIGHBOUR: 'it returns false'. Refute it at one input. -/
def fnStepReadIdempotentWrong : ChangeSpec := { name := "fnStepReadIdempotent", fn := fun _ => fun
  | [d1, d2, d3] => { results := [.lit (.bool false)], args := [d1, d2, d3] }
  | _ => none }
def FnStepReadIdempotentWrongFalsely : Prop := fnStepReadIdempotentRow.holds Try.pinned (OpenSpec.ofChange fnStepReadIdempotentWrong)

/-- 'zzlaws_internal_verify_b1.FnStepUnknownWriteCoversAnswered': WHATEVER THE INPUT: true; the input reads as it did. -/
def fnStepUnknownWriteCoversAnsweredSpec : ChangeSpec := { name := "fnStepUnknownWriteCoversAnswered", fn := fun _ => fun
  | [d1, d2, d3] => { results := [.lit (.bool true)], args := [d1, d2, d3] }
  | _ => none }
def fnStepUnknownWriteCoversAnsweredRow : OpenClaim := { program := "qxb6600938a", sum := "ab27a2637b04db1f98e59653ebf385989fb6435ea4205a3173a93bd2940daa2b", func := "example.com/highwater/highwater/zzlaws_internal_verify_b1.FnStepUnknownWriteCoversAnswered", spec := "fnStepUnknownWriteCoversAnswered", apart := false }
def FnStepUnknownWriteCoversAnsweredSaid : Prop := fnStepUnknownWriteCoversAnsweredRow.holds Try.pinned (OpenSpec.ofChange fnStepUnknownWriteCoversAnsweredSpec)

/-- ITS FALSE NEIGHBOUR: 'it returns false'. Refute it at one input. -/
def fnStepUnknownWriteCoversAnsweredWrong : ChangeSpec := { name := "fnStepUnknownWriteCoversAnswered", fn := fun _ => fun
  | [d1, d2, d3] => { results := [.lit (.bool false)], args := [d1, d2, d3] }
  | _ => none }
def FnStepUnknownWriteCoversAnsweredWrongFalsely : Prop := fnStepUnknownWriteCoversAnsweredRow.holds Try.pinned (OpenSpec.ofChange fnStepUnknownWriteCoversAnsweredWrong)

/-- 'zzlaws_internal_verify_b1.FnStepIfSettledTakenOrRefused': WHATEVER THE INPUT: true; the input reads as it did. -/
def fnStepIfSettledTakenOrRefusedSpec : ChangeSpec := { name := "fnStepIfSettledTakenOrRefused", fn := fun _ => fun
  | [d1, d2, d3] => { results := [.lit (.bool true)], args := [d1, d2, d3] }
  | _ => none }
def fnStepIfSettledTakenOrRefusedRow : OpenClaim := { program := "qxb6600938a", sum := "ab27a2637b04db1f98e59653ebf385989fb6435ea4205a3173a93bd2940daa2b", func := "example.com/highwater/highwater/zzlaws_internal_verify_b1.FnStepIfSettledTakenOrRefused", spec := "fnStepIfSettledTakenOrRefused", apart := false }
def FnStepIfSettledTakenOrRefusedSaid : Prop := fnStepIfSettledTakenOrRefusedRow.holds Try.pinned (OpenSpec.ofChange fnStepIfSettledTakenOrRefusedSpec)

/-- ITS FALSE NEIGHBOUR: 'it returns false'. Refute it at one input. -/
def fnStepIfSettledTakenOrRefusedWrong : ChangeSpec := { name := "fnStepIfSettledTakenOrRefused", fn := fun _ => fun
  | [d1, d2, d3] => { results := [.lit (.bool false)], args := [d1, d2, d3] }
  | _ => none }
def FnStepIfSettledTakenOrRefusedWrongFalsely : Prop := fnStepIfSettledTakenOrRefusedRow.holds Try.pinned (OpenSpec.ofChange fnStepIfSettledTakenOrRefusedWrong)

end Rows
end Go.Proofs.Qxb6600938a
