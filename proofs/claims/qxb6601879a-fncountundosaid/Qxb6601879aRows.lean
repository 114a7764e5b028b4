/-
  No cell of these rows narrows 'for every input' (looked for: loops, veiled, ifaces, maps, wideKeys, modest, calm, conditions, laid).
  DERIVED. THE GIVEN ROWS OF THIS SEAT. 4 by the template 'for every input the law returns true; each argument reads behind the call as it read before'; 0 by the template 'total and deterministic' (their statements: Qxb6601879aTotals.lean).
  GIVEN WITH THE SEED: the statements are not yours to turn. If you find one false, say at which input.
  Laid BY PROGRAM, IN A SANDBOX (cutbox-rows.mjs): the forced cells as the released guide's own fill.sh prints them over the translation 0d0b406d8c41936e… (all of the seat's roots in one cut). By AI agents, Wed Nov 11 2026. No macro, syntax, notation, axiom, sorry.
-/
import Derived.Test.Qxb6601879aChecked
import GoSem.Claim
import GoSem.ClaimJoined
import GoSem.ClaimMapViews
import Derived.JoinedTies
import Derived.KernelRfl
namespace Go.Proofs.Qxb6601879a
/- THE CELL 'sum', in the pinned program and in every row, IS THE sha256 OF THE DUMP (.gsa) THAT Qxb6601879aProg.lean LOADS. Nothing in Lean hashes anything: it is a label: what it is worth is what the hold of that sum in a sandbox is worth. -/
noncomputable def Try.pinned : Pinned := { name := "qxb6601879a", sum := "0d0b406d8c41936ef5f4396b4bc7252a2718924b7c6bef245fd575451195ef77", checked := Try.checked }
namespace Rows
def none {H : Type} : Left H := { results := [], args := [] }

/-- 'zzlaws_internal_summary_b1.FnNamesInByteOrder': WHATEVER THE INPUT: true; the input reads as it did. -/
def fnNamesInByteOrderSpec : ChangeSpec := { name := "fnNamesInByteOrder", fn := fun _ => fun
  | [d1, d2, d3, d4, d5, d6, d7] => { results := [.lit (.bool true)], args := [d1, d2, d3, d4, d5, d6, d7] }
  | _ => none }
def fnNamesInByteOrderRow : OpenClaim := { program := "qxb6601879a", sum := "0d0b406d8c41936ef5f4396b4bc7252a2718924b7c6bef245fd575451195ef77", func := "example.com/arbordex/arbordex/zzlaws_internal_summary_b1.FnNamesInByteOrder", spec := "fnNamesInByteOrder", apart := false }
def FnNamesInByteOrderSaid : Prop := fnNamesInByteOrderRow.holds Try.pinned (OpenSpec.ofChange fnNamesInByteOrderSpec)

/-- ITS FALSE NEIGHBOUR: 'it returns false'. Refute it at one input. -/
def fnNamesInByteOrderWrong : ChangeSpec := { name := "fnNamesInByteOrder", fn := fun _ => fun
  | [d1, d2, d3, d4, d5, d6, d7] => { results := [.lit (.bool false)], args := [d1, d2, d3, d4, d5, d6, d7] }
  | _ => none }
def FnNamesInByteOrderWrongFalsely : Prop := fnNamesInByteOrderRow.holds Try.pinned (OpenSpec.ofChange fnNamesInByteOrderWrong)

/-- 'zzlaws_internal_summary_b1.FnNamesOnlyByNameSet': WHATEVER THE INPUT: true; the input reads as it did. -/
def fnNamesOnlyByNameSetSpec : ChangeSpec := { name := "fnNamesOnlyByNameSet", fn := fun _ => fun
  | [d1, d2, d3, d4, d5, d6, d7, d8, d9, d10, d11, d12] => { results := [.lit (.bool true)], args := [d1, d2, d3, d4, d5, d6, d7, d8, d9, d10, d11, d12] }
  | _ => none }
def fnNamesOnlyByNameSetRow : OpenClaim := { program := "qxb6601879a", sum := "0d0b406d8c41936ef5f4396b4bc7252a2718924b7c6bef245fd575451195ef77", func := "example.com/arbordex/arbordex/zzlaws_internal_summary_b1.FnNamesOnlyByNameSet", spec := "fnNamesOnlyByNameSet", apart := false }
def FnNamesOnlyByNameSetSaid : Prop := fnNamesOnlyByNameSetRow.holds Try.pinned (OpenSpec.ofChange fnNamesOnlyByNameSetSpec)

/-- ITS FALSE NEIGHBOUR: 'it returns false'. Refute it at one input. -/
def fnNamesOnlyByNameSetWrong : ChangeSpec := { name := "fnNamesOnlyByNameSet", fn := fun _ => fun
  | [d1, d2, d3, d4, d5, d6, d7, d8, d9, d10, d11, d12] => { results := [.lit (.bool false)], args := [d1, d2, d3, d4, d5, d6, d7, d8, d9, d10, d11, d12] }
  | _ => none }
def FnNamesOnlyByNameSetWrongFalsely : Prop := fnNamesOnlyByNameSetRow.holds Try.pinned (OpenSpec.ofChange fnNamesOnlyByNameSetWrong)

/-- 'zzlaws_internal_summary_b1.FnCountUndo': WHATEVER THE INPUT: true; the input reads as it did. -/
def fnCountUndoSpec : ChangeSpec := { name := "fnCountUndo", fn := fun _ => fun
  | [d1, d2, d3, d4, d5, d6] => { results := [.lit (.bool true)], args := [d1, d2, d3, d4, d5, d6] }
  | _ => none }
def fnCountUndoRow : OpenClaim := { program := "qxb6601879a", sum := "0d0b406d8c41936ef5f4396b4bc7252a2718924b7c6bef245fd575451195ef77", func := "example.com/arbordex/arbordex/zzlaws_internal_summary_b1.FnCountUndo", spec := "fnCountUndo", apart := false }
def FnCountUndoSaid : Prop := fnCountUndoRow.holds Try.pinned (OpenSpec.ofChange fnCountUndoSpec)

/-- ITS FALSE NEIGHBOUR: 'it returns false'. Refute it at one input. -/
def fnCountUndoWrong : ChangeSpec := { name := "fnCountUndo", fn := fun _ => fun
  | [d1, d2, d3, d4, d5, d6] => { results := [.lit (.bool false)], args := [d1, d2, d3, d4, d5, d6] }
  | _ => none }
def FnCountUndoWrongFalsely : Prop := fnCountUndoRow.holds Try.pinned (OpenSpec.ofChange fnCountUndoWrong)

/-- 'zzlaws_internal_summary_b1.FnCountScriptKeepsForm': WHATEVER THE INPUT: true; the input reads as it did. -/
def fnCountScriptKeepsFormSpec : ChangeSpec := { name := "fnCountScriptKeepsForm", fn := fun _ => fun
  | [d1, d2, d3] => { results := [.lit (.bool true)], args := [d1, d2, d3] }
  | _ => none }
def fnCountScriptKeepsFormRow : OpenClaim := { program := "qxb6601879a", sum := "0d0b406d8c41936ef5f4396b4bc7252a2718924b7c6bef245fd575451195ef77", func := "example.com/arbordex/arbordex/zzlaws_internal_summary_b1.FnCountScriptKeepsForm", spec := "fnCountScriptKeepsForm", apart := false }
def FnCountScriptKeepsFormSaid : Prop := fnCountScriptKeepsFormRow.holds Try.pinned (OpenSpec.ofChange fnCountScriptKeepsFormSpec)

/-- ITS FALSE NEIGHBOUR: 'it returns false'. Refute it at one input. -/
def fnCountScriptKeepsFormWrong : ChangeSpec := { name := "fnCountScriptKeepsForm", fn := fun _ => fun
  | [d1, d2, d3] => { results := [.lit (.bool false)], args := [d1, d2, d3] }
  | _ => none }
def FnCountScriptKeepsFormWrongFalsely : Prop := fnCountScriptKeepsFormRow.holds Try.pinned (OpenSpec.ofChange fnCountScriptKeepsFormWrong)

end Rows
end Go.Proofs.Qxb6601879a
