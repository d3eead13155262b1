/-
  No cell of these rows narrows 'for every input' (looked for: loops, veiled, ifaces, maps, wideKeys, modest, calm, conditions, laid).
  DERIVED. THE GIVEN ROWS OF THIS SEAT. 4 by the template 'for every input the law returns true; each argument reads behind the call as it read before'; 0 by the template 'total and deterministic' (their statements: Qxb6603549aTotals.lean).
  GIVEN WITH THE SEED: the statements are not yours to turn. If you find one false, say at which input.
  Laid BY PROGRAM, IN A SANDBOX (cutbox-rows.mjs): the forced cells as the released guide's own fill.sh prints them over the translation 0a49e48d557a7807… (all of the seat's roots in one cut). By AI agents, Wed Nov 11 2026. No macro, syntax, notation, axiom, sorry.
-/
import Derived.Test.Qxb6603549aChecked
import GoSem.Claim
import GoSem.ClaimJoined
import GoSem.ClaimMapViews
import Derived.JoinedTies
import Derived.KernelRfl
namespace Go.Proofs.Qxb6603549a
/- THE CELL 'sum', in the pinned program and in every row, IS THE sha256 OF THE DUMP (.gsa) THAT Qxb6603549aProg.lean LOADS. Nothing in Lean hashes anything: it is a label: what it is worth is what the hold of that sum in a sandbox is worth. -/
noncomputable def Try.pinned : Pinned := { name := "qxb6603549a", sum := "0a49e48d557a78077f909575a1e6bf097d698d35a7428319bba43cb245ed6bab", checked := Try.checked }
namespace Rows
def none {H : Type} : Left H := { results := [], args := [] }

/-- 'zzlaws_internal_lock_b1.FnNameResourceIsSameExactlyWhenNamesEqual': WHATEVER THE INPUT: true; the input reads as it did. -/
def fnNameResourceIsSameExactlyWhenNamesEqualSpec : ChangeSpec := { name := "fnNameResourceIsSameExactlyWhenNamesEqual", fn := fun _ => fun
  | [d1, d2] => { results := [.lit (.bool true)], args := [d1, d2] }
  | _ => none }
def fnNameResourceIsSameExactlyWhenNamesEqualRow : OpenClaim := { program := "qxb6603549a", sum := "0a49e48d557a78077f909575a1e6bf097d698d35a7428319bba43cb245ed6bab", func := "example.com/serialis/serialis/zzlaws_internal_lock_b1.FnNameResourceIsSameExactlyWhenNamesEqual", spec := "fnNameResourceIsSameExactlyWhenNamesEqual", apart := false }
def FnNameResourceIsSameExactlyWhenNamesEqualSaid : Prop := fnNameResourceIsSameExactlyWhenNamesEqualRow.holds Try.pinned (OpenSpec.ofChange fnNameResourceIsSameExactlyWhenNamesEqualSpec)

/-- ITS FALSE NEIGHBOUR: 'it returns false'. Refute it at one input. -/
def fnNameResourceIsSameExactlyWhenNamesEqualWrong : ChangeSpec := { name := "fnNameResourceIsSameExactlyWhenNamesEqual", fn := fun _ => fun
  | [d1, d2] => { results := [.lit (.bool false)], args := [d1, d2] }
  | _ => none }
def FnNameResourceIsSameExactlyWhenNamesEqualWrongFalsely : Prop := fnNameResourceIsSameExactlyWhenNamesEqualRow.holds Try.pinned (OpenSpec.ofChange fnNameResourceIsSameExactlyWhenNamesEqualWrong)

/-- 'zzlaws_internal_lock_b1.FnHeldByReadsTheHolderTable': WHATEVER THE INPUT: true; the input reads as it did. -/
def fnHeldByReadsTheHolderTableSpec : ChangeSpec := { name := "fnHeldByReadsTheHolderTable", fn := fun _ => fun
  | [d1, d2] => { results := [.lit (.bool true)], args := [d1, d2] }
  | _ => none }
def fnHeldByReadsTheHolderTableRow : OpenClaim := { program := "qxb6603549a", sum := "0a49e48d557a78077f909575a1e6bf097d698d35a7428319bba43cb245ed6bab", func := "example.com/serialis/serialis/zzlaws_internal_lock_b1.FnHeldByReadsTheHolderTable", spec := "fnHeldByReadsTheHolderTable", apart := false }
def FnHeldByReadsTheHolderTableSaid : Prop := fnHeldByReadsTheHolderTableRow.holds Try.pinned (OpenSpec.ofChange fnHeldByReadsTheHolderTableSpec)

/-- ITS FALSE NEIGHBOUR: 'it returns false'. Refute it at one input. -/
def fnHeldByReadsTheHolderTableWrong : ChangeSpec := { name := "fnHeldByReadsTheHolderTable", fn := fun _ => fun
  | [d1, d2] => { results := [.lit (.bool false)], args := [d1, d2] }
  | _ => none }
def FnHeldByReadsTheHolderTableWrongFalsely : Prop := fnHeldByReadsTheHolderTableRow.holds Try.pinned (OpenSpec.ofChange fnHeldByReadsTheHolderTableWrong)

/-- 'zzlaws_internal_lock_b1.FnHeldByAgreesWithOwnersFindHeld': WHATEVER THE INPUT: true; the input reads as it did. -/
def fnHeldByAgreesWithOwnersFindHeldSpec : ChangeSpec := { name := "fnHeldByAgreesWithOwnersFindHeld", fn := fun _ => fun
  | [d1, d2, d3] => { results := [.lit (.bool true)], args := [d1, d2, d3] }
  | _ => none }
def fnHeldByAgreesWithOwnersFindHeldRow : OpenClaim := { program := "qxb6603549a", sum := "0a49e48d557a78077f909575a1e6bf097d698d35a7428319bba43cb245ed6bab", func := "example.com/serialis/serialis/zzlaws_internal_lock_b1.FnHeldByAgreesWithOwnersFindHeld", spec := "fnHeldByAgreesWithOwnersFindHeld", apart := false }
def FnHeldByAgreesWithOwnersFindHeldSaid : Prop := fnHeldByAgreesWithOwnersFindHeldRow.holds Try.pinned (OpenSpec.ofChange fnHeldByAgreesWithOwnersFindHeldSpec)

/-- ITS FALSE NEIGHBOUR: 'it returns false'. Refute it at one input. -/
def fnHeldByAgreesWithOwnersFindHeldWrong : ChangeSpec := { name := "fnHeldByAgreesWithOwnersFindHeld", fn := fun _ => fun
  | [d1, d2, d3] => { results := [.lit (.bool false)], args := [d1, d2, d3] }
  | _ => none }
def FnHeldByAgreesWithOwnersFindHeldWrongFalsely : Prop := fnHeldByAgreesWithOwnersFindHeldRow.holds Try.pinned (OpenSpec.ofChange fnHeldByAgreesWithOwnersFindHeldWrong)

/-- 'zzlaws_internal_lock_b1.FnFindHeldOfNameResourceIsTheUniqueHolding': WHATEVER THE INPUT: true; the input reads as it did. -/
def fnFindHeldOfNameResourceIsTheUniqueHoldingSpec : ChangeSpec := { name := "fnFindHeldOfNameResourceIsTheUniqueHolding", fn := fun _ => fun
  | [d1, d2, d3] => { results := [.lit (.bool true)], args := [d1, d2, d3] }
  | _ => none }
def fnFindHeldOfNameResourceIsTheUniqueHoldingRow : OpenClaim := { program := "qxb6603549a", sum := "0a49e48d557a78077f909575a1e6bf097d698d35a7428319bba43cb245ed6bab", func := "example.com/serialis/serialis/zzlaws_internal_lock_b1.FnFindHeldOfNameResourceIsTheUniqueHolding", spec := "fnFindHeldOfNameResourceIsTheUniqueHolding", apart := false }
def FnFindHeldOfNameResourceIsTheUniqueHoldingSaid : Prop := fnFindHeldOfNameResourceIsTheUniqueHoldingRow.holds Try.pinned (OpenSpec.ofChange fnFindHeldOfNameResourceIsTheUniqueHoldingSpec)

/-- ITS FALSE NEIGHBOUR: 'it returns false'. Refute it at one input. -/
def fnFindHeldOfNameResourceIsTheUniqueHoldingWrong : ChangeSpec := { name := "fnFindHeldOfNameResourceIsTheUniqueHolding", fn := fun _ => fun
  | [d1, d2, d3] => { results := [.lit (.bool false)], args := [d1, d2, d3] }
  | _ => none }
def FnFindHeldOfNameResourceIsTheUniqueHoldingWrongFalsely : Prop := fnFindHeldOfNameResourceIsTheUniqueHoldingRow.holds Try.pinned (OpenSpec.ofChange fnFindHeldOfNameResourceIsTheUniqueHoldingWrong)

end Rows
end Go.Proofs.Qxb6603549a
