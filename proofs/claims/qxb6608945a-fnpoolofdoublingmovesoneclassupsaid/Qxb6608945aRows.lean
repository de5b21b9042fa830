/-
  No cell of these rows narrows 'for every input' (looked for: loops, veiled, ifaces, maps, wideKeys, modest, calm, conditions, laid).
  DERIVED. THE GIVEN ROWS OF THIS SEAT. 6 by the template 'for every input the law returns true; each argument reads behind the call as it read before'; 0 by the template 'total and deterministic' (their statements: Qxb6608945aTotals.lean).
  GIVEN WITH THE SEED: the statements are not yours to turn. If you find one false, say at which input.
  Laid BY PROGRAM, IN A SANDBOX (cutbox-rows.mjs): the forced cells as the released guide's own fill.sh prints them over the translation 790e98236e40c771… (all of the seat's roots in one cut). By AI agents, Wed Nov 11 2026. No macro, syntax, notation, axiom, sorry.
-/
import Derived.Test.Qxb6608945aChecked
import GoSem.Claim
import GoSem.ClaimJoined
import GoSem.ClaimMapViews
import Derived.JoinedTies
import Derived.KernelRfl
namespace Go.Proofs.Qxb6608945a
/- THE CELL 'sum', in the pinned program and in every row, IS THE sha256 OF THE DUMP (.gsa) THAT Qxb6608945aProg.lean LOADS. Nothing in Lean hashes anything: it is a label: what it is worth is what the hold of that sum in a sandbox is worth. -/
noncomputable def Try.pinned : Pinned := { name := "qxb6608945a", sum := "790e98236e40c77184dae55a526bd4db54753c246636e6e3c26e1d8469b7a01b", checked := Try.checked }
namespace Rows
def none {H : Type} : Left H := { results := [], args := [] }

/-- 'zzlaws_internal_buffers_b1.FnPoolOfPicksSmallestHoldingClass': WHATEVER THE INPUT: true; the input reads as it did. -/
def fnPoolOfPicksSmallestHoldingClassSpec : ChangeSpec := { name := "fnPoolOfPicksSmallestHoldingClass", fn := fun _ => fun
  | [d] => { results := [.lit (.bool true)], args := [d] }
  | _ => none }
def fnPoolOfPicksSmallestHoldingClassRow : OpenClaim := { program := "qxb6608945a", sum := "790e98236e40c77184dae55a526bd4db54753c246636e6e3c26e1d8469b7a01b", func := "example.com/ringwright/ringwright/zzlaws_internal_buffers_b1.FnPoolOfPicksSmallestHoldingClass", spec := "fnPoolOfPicksSmallestHoldingClass", apart := false }
def FnPoolOfPicksSmallestHoldingClassSaid : Prop := fnPoolOfPicksSmallestHoldingClassRow.holds Try.pinned (OpenSpec.ofChange fnPoolOfPicksSmallestHoldingClassSpec)

/-- ITS FALSE NEIGHBOUR: 'it returns false'. Refute it at one input. -/
def fnPoolOfPicksSmallestHoldingClassWrong : ChangeSpec := { name := "fnPoolOfPicksSmallestHoldingClass", fn := fun _ => fun
  | [d] => { results := [.lit (.bool false)], args := [d] }
  | _ => none }
def FnPoolOfPicksSmallestHoldingClassWrongFalsely : Prop := fnPoolOfPicksSmallestHoldingClassRow.holds Try.pinned (OpenSpec.ofChange fnPoolOfPicksSmallestHoldingClassWrong)

/-- 'zzlaws_internal_buffers_b1.FnPoolOfDoublingMovesOneClassUp': WHATEVER THE INPUT: true; the input reads as it did. -/
def fnPoolOfDoublingMovesOneClassUpSpec : ChangeSpec := { name := "fnPoolOfDoublingMovesOneClassUp", fn := fun _ => fun
  | [d] => { results := [.lit (.bool true)], args := [d] }
  | _ => none }
def fnPoolOfDoublingMovesOneClassUpRow : OpenClaim := { program := "qxb6608945a", sum := "790e98236e40c77184dae55a526bd4db54753c246636e6e3c26e1d8469b7a01b", func := "example.com/ringwright/ringwright/zzlaws_internal_buffers_b1.FnPoolOfDoublingMovesOneClassUp", spec := "fnPoolOfDoublingMovesOneClassUp", apart := false }
def FnPoolOfDoublingMovesOneClassUpSaid : Prop := fnPoolOfDoublingMovesOneClassUpRow.holds Try.pinned (OpenSpec.ofChange fnPoolOfDoublingMovesOneClassUpSpec)

/-- ITS FALSE NEIGHBOUR: 'it returns false'. Refute it at one input. -/
def fnPoolOfDoublingMovesOneClassUpWrong : ChangeSpec := { name := "fnPoolOfDoublingMovesOneClassUp", fn := fun _ => fun
  | [d] => { results := [.lit (.bool false)], args := [d] }
  | _ => none }
def FnPoolOfDoublingMovesOneClassUpWrongFalsely : Prop := fnPoolOfDoublingMovesOneClassUpRow.holds Try.pinned (OpenSpec.ofChange fnPoolOfDoublingMovesOneClassUpWrong)

/-- 'zzlaws_internal_buffers_b1.FnClassCapBoundsPoolOfClasses': WHATEVER THE INPUT: true; the input reads as it did. -/
def fnClassCapBoundsPoolOfClassesSpec : ChangeSpec := { name := "fnClassCapBoundsPoolOfClasses", fn := fun _ => fun
  | [d] => { results := [.lit (.bool true)], args := [d] }
  | _ => none }
def fnClassCapBoundsPoolOfClassesRow : OpenClaim := { program := "qxb6608945a", sum := "790e98236e40c77184dae55a526bd4db54753c246636e6e3c26e1d8469b7a01b", func := "example.com/ringwright/ringwright/zzlaws_internal_buffers_b1.FnClassCapBoundsPoolOfClasses", spec := "fnClassCapBoundsPoolOfClasses", apart := false }
def FnClassCapBoundsPoolOfClassesSaid : Prop := fnClassCapBoundsPoolOfClassesRow.holds Try.pinned (OpenSpec.ofChange fnClassCapBoundsPoolOfClassesSpec)

/-- ITS FALSE NEIGHBOUR: 'it returns false'. Refute it at one input. -/
def fnClassCapBoundsPoolOfClassesWrong : ChangeSpec := { name := "fnClassCapBoundsPoolOfClasses", fn := fun _ => fun
  | [d] => { results := [.lit (.bool false)], args := [d] }
  | _ => none }
def FnClassCapBoundsPoolOfClassesWrongFalsely : Prop := fnClassCapBoundsPoolOfClassesRow.holds Try.pinned (OpenSpec.ofChange fnClassCapBoundsPoolOfClassesWrong)

/-- 'zzlaws_internal_buffers_b1.FnCapacityIsLeastPowerOfTwoAndSettled': WHATEVER THE INPUT: true; the input reads as it did. -/
def fnCapacityIsLeastPowerOfTwoAndSettledSpec : ChangeSpec := { name := "fnCapacityIsLeastPowerOfTwoAndSettled", fn := fun _ => fun
  | [d] => { results := [.lit (.bool true)], args := [d] }
  | _ => none }
def fnCapacityIsLeastPowerOfTwoAndSettledRow : OpenClaim := { program := "qxb6608945a", sum := "790e98236e40c77184dae55a526bd4db54753c246636e6e3c26e1d8469b7a01b", func := "example.com/ringwright/ringwright/zzlaws_internal_buffers_b1.FnCapacityIsLeastPowerOfTwoAndSettled", spec := "fnCapacityIsLeastPowerOfTwoAndSettled", apart := false }
def FnCapacityIsLeastPowerOfTwoAndSettledSaid : Prop := fnCapacityIsLeastPowerOfTwoAndSettledRow.holds Try.pinned (OpenSpec.ofChange fnCapacityIsLeastPowerOfTwoAndSettledSpec)

/-- ITS FALSE NEIGHBOUR: 'it returns false'. Refute it at one input. -/
def fnCapacityIsLeastPowerOfTwoAndSettledWrong : ChangeSpec := { name := "fnCapacityIsLeastPowerOfTwoAndSettled", fn := fun _ => fun
  | [d] => { results := [.lit (.bool false)], args := [d] }
  | _ => none }
def FnCapacityIsLeastPowerOfTwoAndSettledWrongFalsely : Prop := fnCapacityIsLeastPowerOfTwoAndSettledRow.holds Try.pinned (OpenSpec.ofChange fnCapacityIsLeastPowerOfTwoAndSettledWrong)

/-- 'zzlaws_internal_buffers_b1.FnCapacityIsMonotoneAndTight': WHATEVER THE INPUT: true; the input reads as it did. -/
def fnCapacityIsMonotoneAndTightSpec : ChangeSpec := { name := "fnCapacityIsMonotoneAndTight", fn := fun _ => fun
  | [d1, d2] => { results := [.lit (.bool true)], args := [d1, d2] }
  | _ => none }
def fnCapacityIsMonotoneAndTightRow : OpenClaim := { program := "qxb6608945a", sum := "790e98236e40c77184dae55a526bd4db54753c246636e6e3c26e1d8469b7a01b", func := "example.com/ringwright/ringwright/zzlaws_internal_buffers_b1.FnCapacityIsMonotoneAndTight", spec := "fnCapacityIsMonotoneAndTight", apart := false }
def FnCapacityIsMonotoneAndTightSaid : Prop := fnCapacityIsMonotoneAndTightRow.holds Try.pinned (OpenSpec.ofChange fnCapacityIsMonotoneAndTightSpec)

/-- ITS FALSE NEIGHBOUR: 'it returns false'. Refute it at one input. -/
def fnCapacityIsMonotoneAndTightWrong : ChangeSpec := { name := "fnCapacityIsMonotoneAndTight", fn := fun _ => fun
  | [d1, d2] => { results := [.lit (.bool false)], args := [d1, d2] }
  | _ => none }
def FnCapacityIsMonotoneAndTightWrongFalsely : Prop := fnCapacityIsMonotoneAndTightRow.holds Try.pinned (OpenSpec.ofChange fnCapacityIsMonotoneAndTightWrong)

/-- 'zzlaws_internal_buffers_b1.FnWaitsInReaderOfCapacityBuffer': WHATEVER THE INPUT: true; the input reads as it did. -/
def fnWaitsInReaderOfCapacityBufferSpec : ChangeSpec := { name := "fnWaitsInReaderOfCapacityBuffer", fn := fun _ => fun
  | [d] => { results := [.lit (.bool true)], args := [d] }
  | _ => none }
def fnWaitsInReaderOfCapacityBufferRow : OpenClaim := { program := "qxb6608945a", sum := "790e98236e40c77184dae55a526bd4db54753c246636e6e3c26e1d8469b7a01b", func := "example.com/ringwright/ringwright/zzlaws_internal_buffers_b1.FnWaitsInReaderOfCapacityBuffer", spec := "fnWaitsInReaderOfCapacityBuffer", apart := false }
def FnWaitsInReaderOfCapacityBufferSaid : Prop := fnWaitsInReaderOfCapacityBufferRow.holds Try.pinned (OpenSpec.ofChange fnWaitsInReaderOfCapacityBufferSpec)

/-- ITS FALSE NEIGHBOUR: 'it returns false'. Refute it at one input. -/
def fnWaitsInReaderOfCapacityBufferWrong : ChangeSpec := { name := "fnWaitsInReaderOfCapacityBuffer", fn := fun _ => fun
  | [d] => { results := [.lit (.bool false)], args := [d] }
  | _ => none }
def FnWaitsInReaderOfCapacityBufferWrongFalsely : Prop := fnWaitsInReaderOfCapacityBufferRow.holds Try.pinned (OpenSpec.ofChange fnWaitsInReaderOfCapacityBufferWrong)

end Rows
end Go.Proofs.Qxb6608945a
