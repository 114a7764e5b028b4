/-
  No cell of these rows narrows 'for every input' (looked for: loops, veiled, ifaces, maps, wideKeys, modest, calm, conditions, laid).
  DERIVED. THE GIVEN ROWS OF THIS SEAT. 2 by the template 'for every input the law returns true; each argument reads behind the call as it read before'; 0 by the template 'total and deterministic' (their statements: Qxb6601437aTotals.lean).
  GIVEN WITH THE SEED: the statements are not yours to turn. If you find one false, say at which input.
  Laid BY PROGRAM, IN A SANDBOX (cutbox-rows.mjs): the forced cells as the released guide's own fill.sh prints them over the translation df7d99e422be1fb8… (all of the seat's roots in one cut). By AI agents, Wed Nov 11 2026. No macro, syntax, notation, axiom, sorry.
-/
import Derived.Test.Qxb6601437aChecked
import GoSem.Claim
import GoSem.ClaimJoined
import GoSem.ClaimMapViews
import Derived.JoinedTies
import Derived.KernelRfl
namespace Go.Proofs.Qxb6601437a
/- THE CELL 'sum', in the pinned program and in every row, IS THE sha256 OF THE DUMP (.gsa) THAT Qxb6601437aProg.lean LOADS. Nothing in Lean hashes anything: it is a label: what it is worth is what the hold of that sum in a sandbox is worth. -/
noncomputable def Try.pinned : Pinned := { name := "qxb6601437a", sum := "df7d99e422be1fb83f5cc0037065a20204d785e839cb4aeb8f692044fdefcec9", checked := Try.checked }
namespace Rows
def none {H : Type} : Left H := { results := [], args := [] }

/-- 'zzlaws_parser_b1.FnContinuationReadsOnlyFromI': WHATEVER THE INPUT: true; the input reads as it did. -/
def fnContinuationReadsOnlyFromISpec : ChangeSpec := { name := "fnContinuationReadsOnlyFromI", fn := fun _ => fun
  | [d1, d2, d3] => { results := [.lit (.bool true)], args := [d1, d2, d3] }
  | _ => none }
def fnContinuationReadsOnlyFromIRow : OpenClaim := { program := "qxb6601437a", sum := "df7d99e422be1fb83f5cc0037065a20204d785e839cb4aeb8f692044fdefcec9", func := "example.com/cellmesh/cellmesh/zzlaws_parser_b1.FnContinuationReadsOnlyFromI", spec := "fnContinuationReadsOnlyFromI", apart := false }
def FnContinuationReadsOnlyFromISaid : Prop := fnContinuationReadsOnlyFromIRow.holds Try.pinned (OpenSpec.ofChange fnContinuationReadsOnlyFromISpec)

/-- ITS FALSE NEIGHBOUR: 'it returns false'. Refute it at one input. -/
def fnContinuationReadsOnlyFromIWrong : ChangeSpec := { name := "fnContinuationReadsOnlyFromI", fn := fun _ => fun
  | [d1, d2, d3] => { results := [.lit (.bool false)], args := [d1, d2, d3] }
  | _ => none }
def FnContinuationReadsOnlyFromIWrongFalsely : Prop := fnContinuationReadsOnlyFromIRow.holds Try.pinned (OpenSpec.ofChange fnContinuationReadsOnlyFromIWrong)

/-- 'zzlaws_parser_b1.FnContinuationFoundQuoteIgnoresWhatFollows': WHATEVER THE INPUT: true; the input reads as it did. -/
def fnContinuationFoundQuoteIgnoresWhatFollowsSpec : ChangeSpec := { name := "fnContinuationFoundQuoteIgnoresWhatFollows", fn := fun _ => fun
  | [d1, d2, d3] => { results := [.lit (.bool true)], args := [d1, d2, d3] }
  | _ => none }
def fnContinuationFoundQuoteIgnoresWhatFollowsRow : OpenClaim := { program := "qxb6601437a", sum := "df7d99e422be1fb83f5cc0037065a20204d785e839cb4aeb8f692044fdefcec9", func := "example.com/cellmesh/cellmesh/zzlaws_parser_b1.FnContinuationFoundQuoteIgnoresWhatFollows", spec := "fnContinuationFoundQuoteIgnoresWhatFollows", apart := false }
def FnContinuationFoundQuoteIgnoresWhatFollowsSaid : Prop := fnContinuationFoundQuoteIgnoresWhatFollowsRow.holds Try.pinned (OpenSpec.ofChange fnContinuationFoundQuoteIgnoresWhatFollowsSpec)

/-- ITS FALSE NEIGHBOUR: 'it returns false'. Refute it at one input. -/
def fnContinuationFoundQuoteIgnoresWhatFollowsWrong : ChangeSpec := { name := "fnContinuationFoundQuoteIgnoresWhatFollows", fn := fun _ => fun
  | [d1, d2, d3] => { results := [.lit (.bool false)], args := [d1, d2, d3] }
  | _ => none }
def FnContinuationFoundQuoteIgnoresWhatFollowsWrongFalsely : Prop := fnContinuationFoundQuoteIgnoresWhatFollowsRow.holds Try.pinned (OpenSpec.ofChange fnContinuationFoundQuoteIgnoresWhatFollowsWrong)

end Rows
end Go.Proofs.Qxb6601437a
