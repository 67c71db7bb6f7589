/-
  No cell of these rows narrows 'for every input' (looked for: loops, veiled, ifaces, maps, wideKeys, modest, calm, conditions, laid).
  DERIVED. THE GIVEN ROWS OF THIS SEAT. 5 by the template 'for every input the law returns true; each argument reads behind the call as it read before'; 0 by the template 'total and deterministic' (their statements: Qxb6607689aTotals.lean).
  GIVEN WITH THE SEED: the statements are not yours to turn. If you find one false, say at which input.
  Laid BY PROGRAM, IN A SANDBOX (cutbox-rows.mjs): the forced cells as the released guide's own fill.sh prints them over the translation 1415fcef0820f184… (all of the seat's roots in one cut). By AI agents, Wed Nov 11 2026. No macro, syntax, notation, axiom, sorry.
-/
import Derived.Test.Qxb6607689aChecked
import GoSem.Claim
import GoSem.ClaimJoined
import GoSem.ClaimMapViews
import Derived.JoinedTies
import Derived.KernelRfl
namespace Go.Proofs.Qxb6607689a
/- THE CELL 'sum', in the pinned program and in every row, IS THE sha256 OF THE DUMP (.gsa) THAT Qxb6607689aProg.lean LOADS. Nothing in Lean hashes anything: it is a label: what it is worth is what the hold of that sum in a sandbox is worth. -/
noncomputable def Try.pinned : Pinned := { name := "qxb6607689a", sum := "1415fcef0820f184c5122ea721bd556d56e214680f337f33e951b408e16a1221", checked := Try.checked }
namespace Rows
def none {H : Type} : Left H := { results := [], args := [] }

/-- 'zzlaws_internal_types_b1.FnIntReadsBackIntValue': WHATEVER THE INPUT: true; the input reads as it did. -/
def fnIntReadsBackIntValueSpec : ChangeSpec := { name := "fnIntReadsBackIntValue", fn := fun _ => fun
  | [d1, d2] => { results := [.lit (.bool true)], args := [d1, d2] }
  | _ => none }
def fnIntReadsBackIntValueRow : OpenClaim := { program := "qxb6607689a", sum := "1415fcef0820f184c5122ea721bd556d56e214680f337f33e951b408e16a1221", func := "example.com/tidemark/tidemark/zzlaws_internal_types_b1.FnIntReadsBackIntValue", spec := "fnIntReadsBackIntValue", apart := false }
def FnIntReadsBackIntValueSaid : Prop := fnIntReadsBackIntValueRow.holds Try.pinned (OpenSpec.ofChange fnIntReadsBackIntValueSpec)

/-- ITS FALSE NEIGHBOUR: 'it returns false'. Refute it at one input. -/
def fnIntReadsBackIntValueWrong : ChangeSpec := { name := "fnIntReadsBackIntValue", fn := fun _ => fun
  | [d1, d2] => { results := [.lit (.bool false)], args := [d1, d2] }
  | _ => none }
def FnIntReadsBackIntValueWrongFalsely : Prop := fnIntReadsBackIntValueRow.holds Try.pinned (OpenSpec.ofChange fnIntReadsBackIntValueWrong)

/-- 'zzlaws_internal_types_b1.FnIntUintAgreeOnEveryUint64': WHATEVER THE INPUT: true; the input reads as it did. -/
def fnIntUintAgreeOnEveryUint64Spec : ChangeSpec := { name := "fnIntUintAgreeOnEveryUint64", fn := fun _ => fun
  | [d] => { results := [.lit (.bool true)], args := [d] }
  | _ => none }
def fnIntUintAgreeOnEveryUint64Row : OpenClaim := { program := "qxb6607689a", sum := "1415fcef0820f184c5122ea721bd556d56e214680f337f33e951b408e16a1221", func := "example.com/tidemark/tidemark/zzlaws_internal_types_b1.FnIntUintAgreeOnEveryUint64", spec := "fnIntUintAgreeOnEveryUint64", apart := false }
def FnIntUintAgreeOnEveryUint64Said : Prop := fnIntUintAgreeOnEveryUint64Row.holds Try.pinned (OpenSpec.ofChange fnIntUintAgreeOnEveryUint64Spec)

/-- ITS FALSE NEIGHBOUR: 'it returns false'. Refute it at one input. -/
def fnIntUintAgreeOnEveryUint64Wrong : ChangeSpec := { name := "fnIntUintAgreeOnEveryUint64", fn := fun _ => fun
  | [d] => { results := [.lit (.bool false)], args := [d] }
  | _ => none }
def FnIntUintAgreeOnEveryUint64WrongFalsely : Prop := fnIntUintAgreeOnEveryUint64Row.holds Try.pinned (OpenSpec.ofChange fnIntUintAgreeOnEveryUint64Wrong)

/-- 'zzlaws_internal_types_b1.FnUintOfIntValue': WHATEVER THE INPUT: true; the input reads as it did. -/
def fnUintOfIntValueSpec : ChangeSpec := { name := "fnUintOfIntValue", fn := fun _ => fun
  | [d1, d2] => { results := [.lit (.bool true)], args := [d1, d2] }
  | _ => none }
def fnUintOfIntValueRow : OpenClaim := { program := "qxb6607689a", sum := "1415fcef0820f184c5122ea721bd556d56e214680f337f33e951b408e16a1221", func := "example.com/tidemark/tidemark/zzlaws_internal_types_b1.FnUintOfIntValue", spec := "fnUintOfIntValue", apart := false }
def FnUintOfIntValueSaid : Prop := fnUintOfIntValueRow.holds Try.pinned (OpenSpec.ofChange fnUintOfIntValueSpec)

/-- ITS FALSE NEIGHBOUR: 'it returns false'. Refute it at one input. -/
def fnUintOfIntValueWrong : ChangeSpec := { name := "fnUintOfIntValue", fn := fun _ => fun
  | [d1, d2] => { results := [.lit (.bool false)], args := [d1, d2] }
  | _ => none }
def FnUintOfIntValueWrongFalsely : Prop := fnUintOfIntValueRow.holds Try.pinned (OpenSpec.ofChange fnUintOfIntValueWrong)

/-- 'zzlaws_internal_types_b1.FnOrdinalOfIntValue': WHATEVER THE INPUT: true; the input reads as it did. -/
def fnOrdinalOfIntValueSpec : ChangeSpec := { name := "fnOrdinalOfIntValue", fn := fun _ => fun
  | [d1, d2, d3, d4, d5] => { results := [.lit (.bool true)], args := [d1, d2, d3, d4, d5] }
  | _ => none }
def fnOrdinalOfIntValueRow : OpenClaim := { program := "qxb6607689a", sum := "1415fcef0820f184c5122ea721bd556d56e214680f337f33e951b408e16a1221", func := "example.com/tidemark/tidemark/zzlaws_internal_types_b1.FnOrdinalOfIntValue", spec := "fnOrdinalOfIntValue", apart := false }
def FnOrdinalOfIntValueSaid : Prop := fnOrdinalOfIntValueRow.holds Try.pinned (OpenSpec.ofChange fnOrdinalOfIntValueSpec)

/-- ITS FALSE NEIGHBOUR: 'it returns false'. Refute it at one input. -/
def fnOrdinalOfIntValueWrong : ChangeSpec := { name := "fnOrdinalOfIntValue", fn := fun _ => fun
  | [d1, d2, d3, d4, d5] => { results := [.lit (.bool false)], args := [d1, d2, d3, d4, d5] }
  | _ => none }
def FnOrdinalOfIntValueWrongFalsely : Prop := fnOrdinalOfIntValueRow.holds Try.pinned (OpenSpec.ofChange fnOrdinalOfIntValueWrong)

/-- 'zzlaws_internal_types_b1.FnOrdinalUnsignedKeepsOrder': WHATEVER THE INPUT: true; the input reads as it did. -/
def fnOrdinalUnsignedKeepsOrderSpec : ChangeSpec := { name := "fnOrdinalUnsignedKeepsOrder", fn := fun _ => fun
  | [d1, d2, d3, d4, d5] => { results := [.lit (.bool true)], args := [d1, d2, d3, d4, d5] }
  | _ => none }
def fnOrdinalUnsignedKeepsOrderRow : OpenClaim := { program := "qxb6607689a", sum := "1415fcef0820f184c5122ea721bd556d56e214680f337f33e951b408e16a1221", func := "example.com/tidemark/tidemark/zzlaws_internal_types_b1.FnOrdinalUnsignedKeepsOrder", spec := "fnOrdinalUnsignedKeepsOrder", apart := false }
def FnOrdinalUnsignedKeepsOrderSaid : Prop := fnOrdinalUnsignedKeepsOrderRow.holds Try.pinned (OpenSpec.ofChange fnOrdinalUnsignedKeepsOrderSpec)

/-- ITS FALSE NEIGHBOUR: 'it returns false'. Refute it at one input. -/
def fnOrdinalUnsignedKeepsOrderWrong : ChangeSpec := { name := "fnOrdinalUnsignedKeepsOrder", fn := fun _ => fun
  | [d1, d2, d3, d4, d5] => { results := [.lit (.bool false)], args := [d1, d2, d3, d4, d5] }
  | _ => none }
def FnOrdinalUnsignedKeepsOrderWrongFalsely : Prop := fnOrdinalUnsignedKeepsOrderRow.holds Try.pinned (OpenSpec.ofChange fnOrdinalUnsignedKeepsOrderWrong)

end Rows
end Go.Proofs.Qxb6607689a
