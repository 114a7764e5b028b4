/-
  No cell of these rows narrows 'for every input' (looked for: loops, veiled, ifaces, maps, wideKeys, modest, calm, conditions, laid).
  DERIVED. THE GIVEN ROWS OF THIS SEAT. 7 by the template 'for every input the law returns true; each argument reads behind the call as it read before'; 0 by the template 'total and deterministic' (their statements: Qxb6601800aTotals.lean).
  GIVEN WITH THE SEED: the statements are not yours to turn. If you find one false, say at which input.
  Laid BY PROGRAM, IN A SANDBOX (cutbox-rows.mjs): the forced cells as the released guide's own fill.sh prints them over the translation c5960c84eb9a9f2d… (all of the seat's roots in one cut). By AI agents, Wed Nov 11 2026. No macro, syntax, notation, axiom, sorry.
-/
import Derived.Test.Qxb6601800aChecked
import GoSem.Claim
import GoSem.ClaimJoined
import GoSem.ClaimMapViews
import Derived.JoinedTies
import Derived.KernelRfl
namespace Go.Proofs.Qxb6601800a
/- THE CELL 'sum', in the pinned program and in every row, IS THE sha256 OF THE DUMP (.gsa) THAT Qxb6601800aProg.lean LOADS. Nothing in Lean hashes anything: it is a label: what it is worth is what the hold of that sum in a sandbox is worth. -/
noncomputable def Try.pinned : Pinned := { name := "qxb6601800a", sum := "c5960c84eb9a9f2d8121b0d8c497d299d08dd6bf0f8e0529c1f4e5c5fe04d7af", checked := Try.checked }
namespace Rows
def none {H : Type} : Left H := { results := [], args := [] }

/-- 'zzlaws_pkg_route_b1.FnNormalizePercentsMatchesRFCModel': WHATEVER THE INPUT: true; the input reads as it did. -/
def fnNormalizePercentsMatchesRFCModelSpec : ChangeSpec := { name := "fnNormalizePercentsMatchesRFCModel", fn := fun _ => fun
  | [d] => { results := [.lit (.bool true)], args := [d] }
  | _ => none }
def fnNormalizePercentsMatchesRFCModelRow : OpenClaim := { program := "qxb6601800a", sum := "c5960c84eb9a9f2d8121b0d8c497d299d08dd6bf0f8e0529c1f4e5c5fe04d7af", func := "example.com/enodia/enodia/zzlaws_pkg_route_b1.FnNormalizePercentsMatchesRFCModel", spec := "fnNormalizePercentsMatchesRFCModel", inPlace := ["internal/bytealg.IndexByteString", "internal/abi.NoEscape", "internal/bytealg.MakeNoZero"], apart := false }
def FnNormalizePercentsMatchesRFCModelSaid : Prop := fnNormalizePercentsMatchesRFCModelRow.holds Try.pinned (OpenSpec.ofChange fnNormalizePercentsMatchesRFCModelSpec)

/-- ITS FALSE NEIGHBOUR: 'it returns false'. Refute it at one input. -/
def fnNormalizePercentsMatchesRFCModelWrong : ChangeSpec := { name := "fnNormalizePercentsMatchesRFCModel", fn := fun _ => fun
  | [d] => { results := [.lit (.bool false)], args := [d] }
  | _ => none }
def FnNormalizePercentsMatchesRFCModelWrongFalsely : Prop := fnNormalizePercentsMatchesRFCModelRow.holds Try.pinned (OpenSpec.ofChange fnNormalizePercentsMatchesRFCModelWrong)

/-- 'zzlaws_pkg_route_b1.FnNormalizePercentsIdempotent': WHATEVER THE INPUT: true; the input reads as it did. -/
def fnNormalizePercentsIdempotentSpec : ChangeSpec := { name := "fnNormalizePercentsIdempotent", fn := fun _ => fun
  | [d] => { results := [.lit (.bool true)], args := [d] }
  | _ => none }
def fnNormalizePercentsIdempotentRow : OpenClaim := { program := "qxb6601800a", sum := "c5960c84eb9a9f2d8121b0d8c497d299d08dd6bf0f8e0529c1f4e5c5fe04d7af", func := "example.com/enodia/enodia/zzlaws_pkg_route_b1.FnNormalizePercentsIdempotent", spec := "fnNormalizePercentsIdempotent", inPlace := ["internal/bytealg.IndexByteString", "internal/abi.NoEscape", "internal/bytealg.MakeNoZero"], apart := false }
def FnNormalizePercentsIdempotentSaid : Prop := fnNormalizePercentsIdempotentRow.holds Try.pinned (OpenSpec.ofChange fnNormalizePercentsIdempotentSpec)

/-- ITS FALSE NEIGHBOUR: 'it returns false'. Refute it at one input. -/
def fnNormalizePercentsIdempotentWrong : ChangeSpec := { name := "fnNormalizePercentsIdempotent", fn := fun _ => fun
  | [d] => { results := [.lit (.bool false)], args := [d] }
  | _ => none }
def FnNormalizePercentsIdempotentWrongFalsely : Prop := fnNormalizePercentsIdempotentRow.holds Try.pinned (OpenSpec.ofChange fnNormalizePercentsIdempotentWrong)

/-- 'zzlaws_pkg_route_b1.FnNormalizePercentsSplitsAtSlash': WHATEVER THE INPUT: true; the input reads as it did. -/
def fnNormalizePercentsSplitsAtSlashSpec : ChangeSpec := { name := "fnNormalizePercentsSplitsAtSlash", fn := fun _ => fun
  | [d1, d2] => { results := [.lit (.bool true)], args := [d1, d2] }
  | _ => none }
def fnNormalizePercentsSplitsAtSlashRow : OpenClaim := { program := "qxb6601800a", sum := "c5960c84eb9a9f2d8121b0d8c497d299d08dd6bf0f8e0529c1f4e5c5fe04d7af", func := "example.com/enodia/enodia/zzlaws_pkg_route_b1.FnNormalizePercentsSplitsAtSlash", spec := "fnNormalizePercentsSplitsAtSlash", inPlace := ["internal/bytealg.IndexByteString", "internal/abi.NoEscape", "internal/bytealg.MakeNoZero"], apart := false }
def FnNormalizePercentsSplitsAtSlashSaid : Prop := fnNormalizePercentsSplitsAtSlashRow.holds Try.pinned (OpenSpec.ofChange fnNormalizePercentsSplitsAtSlashSpec)

/-- ITS FALSE NEIGHBOUR: 'it returns false'. Refute it at one input. -/
def fnNormalizePercentsSplitsAtSlashWrong : ChangeSpec := { name := "fnNormalizePercentsSplitsAtSlash", fn := fun _ => fun
  | [d1, d2] => { results := [.lit (.bool false)], args := [d1, d2] }
  | _ => none }
def FnNormalizePercentsSplitsAtSlashWrongFalsely : Prop := fnNormalizePercentsSplitsAtSlashRow.holds Try.pinned (OpenSpec.ofChange fnNormalizePercentsSplitsAtSlashWrong)

/-- 'zzlaws_pkg_route_b1.FnStripPrefixMatchesBoundarySearch': WHATEVER THE INPUT: true; the input reads as it did. -/
def fnStripPrefixMatchesBoundarySearchSpec : ChangeSpec := { name := "fnStripPrefixMatchesBoundarySearch", fn := fun _ => fun
  | [d1, d2] => { results := [.lit (.bool true)], args := [d1, d2] }
  | _ => none }
def fnStripPrefixMatchesBoundarySearchRow : OpenClaim := { program := "qxb6601800a", sum := "c5960c84eb9a9f2d8121b0d8c497d299d08dd6bf0f8e0529c1f4e5c5fe04d7af", func := "example.com/enodia/enodia/zzlaws_pkg_route_b1.FnStripPrefixMatchesBoundarySearch", spec := "fnStripPrefixMatchesBoundarySearch", inPlace := ["internal/bytealg.CountString", "internal/bytealg.IndexByteString", "internal/bytealg.IndexString", "internal/abi.NoEscape", "internal/bytealg.MakeNoZero"], named := ["internal/bytealg.MaxLen"], apart := false }
def FnStripPrefixMatchesBoundarySearchSaid : Prop := fnStripPrefixMatchesBoundarySearchRow.holds Try.pinned (OpenSpec.ofChange fnStripPrefixMatchesBoundarySearchSpec)

/-- ITS FALSE NEIGHBOUR: 'it returns false'. Refute it at one input. -/
def fnStripPrefixMatchesBoundarySearchWrong : ChangeSpec := { name := "fnStripPrefixMatchesBoundarySearch", fn := fun _ => fun
  | [d1, d2] => { results := [.lit (.bool false)], args := [d1, d2] }
  | _ => none }
def FnStripPrefixMatchesBoundarySearchWrongFalsely : Prop := fnStripPrefixMatchesBoundarySearchRow.holds Try.pinned (OpenSpec.ofChange fnStripPrefixMatchesBoundarySearchWrong)

/-- 'zzlaws_pkg_route_b1.FnStripPrefixIgnoresPrefixSpelling': WHATEVER THE INPUT: true; the input reads as it did. -/
def fnStripPrefixIgnoresPrefixSpellingSpec : ChangeSpec := { name := "fnStripPrefixIgnoresPrefixSpelling", fn := fun _ => fun
  | [d1, d2] => { results := [.lit (.bool true)], args := [d1, d2] }
  | _ => none }
def fnStripPrefixIgnoresPrefixSpellingRow : OpenClaim := { program := "qxb6601800a", sum := "c5960c84eb9a9f2d8121b0d8c497d299d08dd6bf0f8e0529c1f4e5c5fe04d7af", func := "example.com/enodia/enodia/zzlaws_pkg_route_b1.FnStripPrefixIgnoresPrefixSpelling", spec := "fnStripPrefixIgnoresPrefixSpelling", inPlace := ["internal/bytealg.CountString", "internal/bytealg.IndexByteString", "internal/bytealg.IndexString", "internal/abi.NoEscape", "internal/bytealg.MakeNoZero"], named := ["internal/bytealg.MaxLen"], apart := false }
def FnStripPrefixIgnoresPrefixSpellingSaid : Prop := fnStripPrefixIgnoresPrefixSpellingRow.holds Try.pinned (OpenSpec.ofChange fnStripPrefixIgnoresPrefixSpellingSpec)

/-- ITS FALSE NEIGHBOUR: 'it returns false'. Refute it at one input. -/
def fnStripPrefixIgnoresPrefixSpellingWrong : ChangeSpec := { name := "fnStripPrefixIgnoresPrefixSpelling", fn := fun _ => fun
  | [d1, d2] => { results := [.lit (.bool false)], args := [d1, d2] }
  | _ => none }
def FnStripPrefixIgnoresPrefixSpellingWrongFalsely : Prop := fnStripPrefixIgnoresPrefixSpellingRow.holds Try.pinned (OpenSpec.ofChange fnStripPrefixIgnoresPrefixSpellingWrong)

/-- 'zzlaws_pkg_route_b1.FnStripPrefixCommutesWithNormalizing': WHATEVER THE INPUT: true; the input reads as it did. -/
def fnStripPrefixCommutesWithNormalizingSpec : ChangeSpec := { name := "fnStripPrefixCommutesWithNormalizing", fn := fun _ => fun
  | [d1, d2] => { results := [.lit (.bool true)], args := [d1, d2] }
  | _ => none }
def fnStripPrefixCommutesWithNormalizingRow : OpenClaim := { program := "qxb6601800a", sum := "c5960c84eb9a9f2d8121b0d8c497d299d08dd6bf0f8e0529c1f4e5c5fe04d7af", func := "example.com/enodia/enodia/zzlaws_pkg_route_b1.FnStripPrefixCommutesWithNormalizing", spec := "fnStripPrefixCommutesWithNormalizing", inPlace := ["internal/bytealg.CountString", "internal/bytealg.IndexByteString", "internal/bytealg.IndexString", "internal/abi.NoEscape", "internal/bytealg.MakeNoZero"], named := ["internal/bytealg.MaxLen"], apart := false }
def FnStripPrefixCommutesWithNormalizingSaid : Prop := fnStripPrefixCommutesWithNormalizingRow.holds Try.pinned (OpenSpec.ofChange fnStripPrefixCommutesWithNormalizingSpec)

/-- ITS FALSE NEIGHBOUR: 'it returns false'. Refute it at one input. -/
def fnStripPrefixCommutesWithNormalizingWrong : ChangeSpec := { name := "fnStripPrefixCommutesWithNormalizing", fn := fun _ => fun
  | [d1, d2] => { results := [.lit (.bool false)], args := [d1, d2] }
  | _ => none }
def FnStripPrefixCommutesWithNormalizingWrongFalsely : Prop := fnStripPrefixCommutesWithNormalizingRow.holds Try.pinned (OpenSpec.ofChange fnStripPrefixCommutesWithNormalizingWrong)

/-- 'zzlaws_pkg_route_b1.FnGroupBucketOneBucketPerKey': WHATEVER THE INPUT: true; the input reads as it did. -/
def fnGroupBucketOneBucketPerKeySpec : ChangeSpec := { name := "fnGroupBucketOneBucketPerKey", fn := fun _ => fun
  | [d] => { results := [.lit (.bool true)], args := [d] }
  | _ => none }
def fnGroupBucketOneBucketPerKeyRow : OpenClaim := { program := "qxb6601800a", sum := "c5960c84eb9a9f2d8121b0d8c497d299d08dd6bf0f8e0529c1f4e5c5fe04d7af", func := "example.com/enodia/enodia/zzlaws_pkg_route_b1.FnGroupBucketOneBucketPerKey", spec := "fnGroupBucketOneBucketPerKey", apart := false }
def FnGroupBucketOneBucketPerKeySaid : Prop := fnGroupBucketOneBucketPerKeyRow.holds Try.pinned (OpenSpec.ofChange fnGroupBucketOneBucketPerKeySpec)

/-- ITS FALSE NEIGHBOUR: 'it returns false'. Refute it at one input. -/
def fnGroupBucketOneBucketPerKeyWrong : ChangeSpec := { name := "fnGroupBucketOneBucketPerKey", fn := fun _ => fun
  | [d] => { results := [.lit (.bool false)], args := [d] }
  | _ => none }
def FnGroupBucketOneBucketPerKeyWrongFalsely : Prop := fnGroupBucketOneBucketPerKeyRow.holds Try.pinned (OpenSpec.ofChange fnGroupBucketOneBucketPerKeyWrong)

end Rows
end Go.Proofs.Qxb6601800a
