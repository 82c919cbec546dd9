/-
  No cell of these rows narrows 'for every input' (looked for: loops, veiled, ifaces, maps, wideKeys, modest, calm, conditions, laid).
  DERIVED. THE GIVEN ROWS OF THIS SEAT. 5 by the template 'for every input the law returns true; each argument reads behind the call as it read before'; 0 by the template 'total and deterministic' (their statements: Qxb6601448aTotals.lean).
  GIVEN WITH THE SEED: the statements are not yours to turn. If you find one false, say at which input.
  Laid BY PROGRAM, IN A SANDBOX (cutbox-rows.mjs): the forced cells as the released guide's own fill.sh prints them over the translation 75d6ddf4186d9ee9… (all of the seat's roots in one cut). By AI agents, Wed Nov 11 2026. No macro, syntax, notation, axiom, sorry.
-/
import Derived.Test.Qxb6601448aChecked
import GoSem.Claim
import GoSem.ClaimJoined
import GoSem.ClaimMapViews
import Derived.JoinedTies
import Derived.KernelRfl
namespace Go.Proofs.Qxb6601448a
/- THE CELL 'sum', in the pinned program and in every row, IS THE sha256 OF THE DUMP (.gsa) THAT Qxb6601448aProg.lean LOADS. Nothing in Lean hashes anything: it is a label: what it is worth is what the hold of that sum in a sandbox is worth. -/
noncomputable def Try.pinned : Pinned := { name := "qxb6601448a", sum := "75d6ddf4186d9ee94f91fe3db750d83a1437aa9e4aafb49dc9c2ba742385c8c1", checked := Try.checked }
namespace Rows
def none {H : Type} : Left H := { results := [], args := [] }

/-- 'zzlaws_cutoff_b1.FnCoversPreorder': WHATEVER THE INPUT: true; the input reads as it did. -/
def fnCoversPreorderSpec : ChangeSpec := { name := "fnCoversPreorder", fn := fun _ => fun
  | [d1, d2, d3] => { results := [.lit (.bool true)], args := [d1, d2, d3] }
  | _ => none }
def fnCoversPreorderRow : OpenClaim := { program := "qxb6601448a", sum := "75d6ddf4186d9ee94f91fe3db750d83a1437aa9e4aafb49dc9c2ba742385c8c1", func := "example.com/latecomer/latecomer/zzlaws_cutoff_b1.FnCoversPreorder", spec := "fnCoversPreorder", apart := false }
def FnCoversPreorderSaid : Prop := fnCoversPreorderRow.holds Try.pinned (OpenSpec.ofChange fnCoversPreorderSpec)

/-- ITS FALSE NEIGHBOUR: 'it returns false'. Refute it at one input. -/
def fnCoversPreorderWrong : ChangeSpec := { name := "fnCoversPreorder", fn := fun _ => fun
  | [d1, d2, d3] => { results := [.lit (.bool false)], args := [d1, d2, d3] }
  | _ => none }
def FnCoversPreorderWrongFalsely : Prop := fnCoversPreorderRow.holds Try.pinned (OpenSpec.ofChange fnCoversPreorderWrong)

/-- 'zzlaws_cutoff_b1.FnJoinWholeAnswer': WHATEVER THE INPUT: true; the input reads as it did. -/
def fnJoinWholeAnswerSpec : ChangeSpec := { name := "fnJoinWholeAnswer", fn := fun _ => fun
  | [d1, d2, d3, d4, d5] => { results := [.lit (.bool true)], args := [d1, d2, d3, d4, d5] }
  | _ => none }
def fnJoinWholeAnswerRow : OpenClaim := { program := "qxb6601448a", sum := "75d6ddf4186d9ee94f91fe3db750d83a1437aa9e4aafb49dc9c2ba742385c8c1", func := "example.com/latecomer/latecomer/zzlaws_cutoff_b1.FnJoinWholeAnswer", spec := "fnJoinWholeAnswer", unfollowed := true, recurses := true, apart := false }
def FnJoinWholeAnswerSaid : Prop := fnJoinWholeAnswerRow.holds Try.pinned (OpenSpec.ofChange fnJoinWholeAnswerSpec)

/-- ITS FALSE NEIGHBOUR: 'it returns false'. Refute it at one input. -/
def fnJoinWholeAnswerWrong : ChangeSpec := { name := "fnJoinWholeAnswer", fn := fun _ => fun
  | [d1, d2, d3, d4, d5] => { results := [.lit (.bool false)], args := [d1, d2, d3, d4, d5] }
  | _ => none }
def FnJoinWholeAnswerWrongFalsely : Prop := fnJoinWholeAnswerRow.holds Try.pinned (OpenSpec.ofChange fnJoinWholeAnswerWrong)

/-- 'zzlaws_cutoff_b1.FnJoinIdempotent': WHATEVER THE INPUT: true; the input reads as it did. -/
def fnJoinIdempotentSpec : ChangeSpec := { name := "fnJoinIdempotent", fn := fun _ => fun
  | [d1, d2, d3, d4, d5] => { results := [.lit (.bool true)], args := [d1, d2, d3, d4, d5] }
  | _ => none }
def fnJoinIdempotentRow : OpenClaim := { program := "qxb6601448a", sum := "75d6ddf4186d9ee94f91fe3db750d83a1437aa9e4aafb49dc9c2ba742385c8c1", func := "example.com/latecomer/latecomer/zzlaws_cutoff_b1.FnJoinIdempotent", spec := "fnJoinIdempotent", unfollowed := true, recurses := true, apart := false }
def FnJoinIdempotentSaid : Prop := fnJoinIdempotentRow.holds Try.pinned (OpenSpec.ofChange fnJoinIdempotentSpec)

/-- ITS FALSE NEIGHBOUR: 'it returns false'. Refute it at one input. -/
def fnJoinIdempotentWrong : ChangeSpec := { name := "fnJoinIdempotent", fn := fun _ => fun
  | [d1, d2, d3, d4, d5] => { results := [.lit (.bool false)], args := [d1, d2, d3, d4, d5] }
  | _ => none }
def FnJoinIdempotentWrongFalsely : Prop := fnJoinIdempotentRow.holds Try.pinned (OpenSpec.ofChange fnJoinIdempotentWrong)

/-- 'zzlaws_cutoff_b1.FnJoinAgreesWithCovers': WHATEVER THE INPUT: true; the input reads as it did. -/
def fnJoinAgreesWithCoversSpec : ChangeSpec := { name := "fnJoinAgreesWithCovers", fn := fun _ => fun
  | [d1, d2, d3, d4, d5] => { results := [.lit (.bool true)], args := [d1, d2, d3, d4, d5] }
  | _ => none }
def fnJoinAgreesWithCoversRow : OpenClaim := { program := "qxb6601448a", sum := "75d6ddf4186d9ee94f91fe3db750d83a1437aa9e4aafb49dc9c2ba742385c8c1", func := "example.com/latecomer/latecomer/zzlaws_cutoff_b1.FnJoinAgreesWithCovers", spec := "fnJoinAgreesWithCovers", unfollowed := true, recurses := true, apart := false }
def FnJoinAgreesWithCoversSaid : Prop := fnJoinAgreesWithCoversRow.holds Try.pinned (OpenSpec.ofChange fnJoinAgreesWithCoversSpec)

/-- ITS FALSE NEIGHBOUR: 'it returns false'. Refute it at one input. -/
def fnJoinAgreesWithCoversWrong : ChangeSpec := { name := "fnJoinAgreesWithCovers", fn := fun _ => fun
  | [d1, d2, d3, d4, d5] => { results := [.lit (.bool false)], args := [d1, d2, d3, d4, d5] }
  | _ => none }
def FnJoinAgreesWithCoversWrongFalsely : Prop := fnJoinAgreesWithCoversRow.holds Try.pinned (OpenSpec.ofChange fnJoinAgreesWithCoversWrong)

/-- 'zzlaws_cutoff_b1.FnRecordWholeAnswer': WHATEVER THE INPUT: true; the input reads as it did. -/
def fnRecordWholeAnswerSpec : ChangeSpec := { name := "fnRecordWholeAnswer", fn := fun _ => fun
  | [d1, d2, d3, d4, d5] => { results := [.lit (.bool true)], args := [d1, d2, d3, d4, d5] }
  | _ => none }
def fnRecordWholeAnswerRow : OpenClaim := { program := "qxb6601448a", sum := "75d6ddf4186d9ee94f91fe3db750d83a1437aa9e4aafb49dc9c2ba742385c8c1", func := "example.com/latecomer/latecomer/zzlaws_cutoff_b1.FnRecordWholeAnswer", spec := "fnRecordWholeAnswer", unfollowed := true, recurses := true, apart := false }
def FnRecordWholeAnswerSaid : Prop := fnRecordWholeAnswerRow.holds Try.pinned (OpenSpec.ofChange fnRecordWholeAnswerSpec)

/-- ITS FALSE NEIGHBOUR: 'it returns false'. Refute it at one input. -/
def fnRecordWholeAnswerWrong : ChangeSpec := { name := "fnRecordWholeAnswer", fn := fun _ => fun
  | [d1, d2, d3, d4, d5] => { results := [.lit (.bool false)], args := [d1, d2, d3, d4, d5] }
  | _ => none }
def FnRecordWholeAnswerWrongFalsely : Prop := fnRecordWholeAnswerRow.holds Try.pinned (OpenSpec.ofChange fnRecordWholeAnswerWrong)

end Rows
end Go.Proofs.Qxb6601448a
