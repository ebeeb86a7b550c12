/-
  No cell of these rows narrows 'for every input' (looked for: loops, veiled, ifaces, maps, wideKeys, modest, calm, conditions, laid).
  DERIVED. THE GIVEN ROWS OF THIS SEAT. 3 by the template 'for every input the law returns true; each argument reads behind the call as it read before'; 0 by the template 'total and deterministic' (their statements: Qxb6604017aTotals.lean).
  GIVEN WITH THE SEED: the statements are not yours to turn. If you find one false, say at which input.
  Laid BY PROGRAM, IN A SANDBOX (cutbox-rows.mjs): the forced cells as the released guide's own fill.sh prints them over the translation 9751a20c93706fd2… (all of the seat's roots in one cut). By AI agents, Wed Nov 11 2026. No macro, syntax, notation, axiom, sorry.
-/
import Derived.Test.Qxb6604017aChecked
import GoSem.Claim
import GoSem.ClaimJoined
import GoSem.ClaimMapViews
import Derived.JoinedTies
import Derived.KernelRfl
namespace Go.Proofs.Qxb6604017a
/- THE CELL 'sum', in the pinned program and in every row, IS THE sha256 OF THE DUMP (.gsa) THAT Qxb6604017aProg.lean LOADS. Nothing in Lean hashes anything: it is a label: what it is worth is what the hold of that sum in a sandbox is worth. -/
noncomputable def Try.pinned : Pinned := { name := "qxb6604017a", sum := "9751a20c93706fd2e2100ef30c607238fc8c1bc6604af1c0859d510e7250eeb9", checked := Try.checked }
namespace Rows
def none {H : Type} : Left H := { results := [], args := [] }

/-- 'zzlaws_schema_b1.FnSubjectTypeStringReadsBack': WHATEVER THE INPUT: true; the input reads as it did. -/
def fnSubjectTypeStringReadsBackSpec : ChangeSpec := { name := "fnSubjectTypeStringReadsBack", fn := fun _ => fun
  | [d1, d2, d3] => { results := [.lit (.bool true)], args := [d1, d2, d3] }
  | _ => none }
def fnSubjectTypeStringReadsBackRow : OpenClaim := { program := "qxb6604017a", sum := "9751a20c93706fd2e2100ef30c607238fc8c1bc6604af1c0859d510e7250eeb9", func := "example.com/grant/grant/zzlaws_schema_b1.FnSubjectTypeStringReadsBack", spec := "fnSubjectTypeStringReadsBack", apart := false }
def FnSubjectTypeStringReadsBackSaid : Prop := fnSubjectTypeStringReadsBackRow.holds Try.pinned (OpenSpec.ofChange fnSubjectTypeStringReadsBackSpec)

/-- ITS FALSE NEIGHBOUR: 'it returns false'. Refute it at one input. -/
def fnSubjectTypeStringReadsBackWrong : ChangeSpec := { name := "fnSubjectTypeStringReadsBack", fn := fun _ => fun
  | [d1, d2, d3] => { results := [.lit (.bool false)], args := [d1, d2, d3] }
  | _ => none }
def FnSubjectTypeStringReadsBackWrongFalsely : Prop := fnSubjectTypeStringReadsBackRow.holds Try.pinned (OpenSpec.ofChange fnSubjectTypeStringReadsBackWrong)

/-- 'zzlaws_schema_b1.FnTypeListReadsBack': WHATEVER THE INPUT: true; the input reads as it did. -/
def fnTypeListReadsBackSpec : ChangeSpec := { name := "fnTypeListReadsBack", fn := fun _ => fun
  | [d1, d2] => { results := [.lit (.bool true)], args := [d1, d2] }
  | _ => none }
def fnTypeListReadsBackRow : OpenClaim := { program := "qxb6604017a", sum := "9751a20c93706fd2e2100ef30c607238fc8c1bc6604af1c0859d510e7250eeb9", func := "example.com/grant/grant/zzlaws_schema_b1.FnTypeListReadsBack", spec := "fnTypeListReadsBack", inPlace := ["internal/abi.NoEscape", "internal/bytealg.MakeNoZero"], apart := false }
def FnTypeListReadsBackSaid : Prop := fnTypeListReadsBackRow.holds Try.pinned (OpenSpec.ofChange fnTypeListReadsBackSpec)

/-- ITS FALSE NEIGHBOUR: 'it returns false'. Refute it at one input. -/
def fnTypeListReadsBackWrong : ChangeSpec := { name := "fnTypeListReadsBack", fn := fun _ => fun
  | [d1, d2] => { results := [.lit (.bool false)], args := [d1, d2] }
  | _ => none }
def FnTypeListReadsBackWrongFalsely : Prop := fnTypeListReadsBackRow.holds Try.pinned (OpenSpec.ofChange fnTypeListReadsBackWrong)

/-- 'zzlaws_schema_b1.FnAcceptsEveryListedKind': WHATEVER THE INPUT: true; the input reads as it did. -/
def fnAcceptsEveryListedKindSpec : ChangeSpec := { name := "fnAcceptsEveryListedKind", fn := fun _ => fun
  | [d1, d2, d3, d4] => { results := [.lit (.bool true)], args := [d1, d2, d3, d4] }
  | _ => none }
def fnAcceptsEveryListedKindRow : OpenClaim := { program := "qxb6604017a", sum := "9751a20c93706fd2e2100ef30c607238fc8c1bc6604af1c0859d510e7250eeb9", func := "example.com/grant/grant/zzlaws_schema_b1.FnAcceptsEveryListedKind", spec := "fnAcceptsEveryListedKind", apart := false }
def FnAcceptsEveryListedKindSaid : Prop := fnAcceptsEveryListedKindRow.holds Try.pinned (OpenSpec.ofChange fnAcceptsEveryListedKindSpec)

/-- ITS FALSE NEIGHBOUR: 'it returns false'. Refute it at one input. -/
def fnAcceptsEveryListedKindWrong : ChangeSpec := { name := "fnAcceptsEveryListedKind", fn := fun _ => fun
  | [d1, d2, d3, d4] => { results := [.lit (.bool false)], args := [d1, d2, d3, d4] }
  | _ => none }
def FnAcceptsEveryListedKindWrongFalsely : Prop := fnAcceptsEveryListedKindRow.holds Try.pinned (OpenSpec.ofChange fnAcceptsEveryListedKindWrong)

end Rows
end Go.Proofs.Qxb6604017a
