/-
  No cell of these rows narrows 'for every input' (looked for: loops, veiled, ifaces, maps, wideKeys, modest, calm, conditions, laid).
  DERIVED. THE GIVEN ROWS OF THIS SEAT. 6 by the template 'for every input the law returns true; each argument reads behind the call as it read before'; 0 by the template 'total and deterministic' (their statements: Qxb6616617aTotals.lean).
  GIVEN WITH THE SEED: the statements are not yours to turn. If you find one false, say at which input.
  Laid BY PROGRAM, IN A SANDBOX (cutbox-rows.mjs): the forced cells as the released guide's own fill.sh prints them over the translation a435f757a2fd79e9… (all of the seat's roots in one cut). By AI agents, Wed Nov 11 2026. No macro, syntax, notation, axiom, sorry.
-/
import Derived.Test.Qxb6616617aChecked
import GoSem.Claim
import GoSem.ClaimJoined
import GoSem.ClaimMapViews
import Derived.JoinedTies
import Derived.KernelRfl
namespace Go.Proofs.Qxb6616617a
/- THE CELL 'sum', in the pinned program and in every row, IS THE sha256 OF THE DUMP (.gsa) THAT Qxb6616617aProg.lean LOADS. Nothing in Lean hashes anything: it is a label: what it is worth is what the hold of that sum in a sandbox is worth. -/
noncomputable def Try.pinned : Pinned := { name := "qxb6616617a", sum := "a435f757a2fd79e996866bfa6581c0539f2e40b453270986dbb1ab2d55557bdb", checked := Try.checked }
namespace Rows
def none {H : Type} : Left H := { results := [], args := [] }

/-- 'zzlaws_vsix_b1.FnFirstSegmentIsIdempotentSlashFreePrefix': WHATEVER THE INPUT: true; the input reads as it did. -/
def fnFirstSegmentIsIdempotentSlashFreePrefixSpec : ChangeSpec := { name := "fnFirstSegmentIsIdempotentSlashFreePrefix", fn := fun _ => fun
  | [d] => { results := [.lit (.bool true)], args := [d] }
  | _ => none }
def fnFirstSegmentIsIdempotentSlashFreePrefixRow : OpenClaim := { program := "qxb6616617a", sum := "a435f757a2fd79e996866bfa6581c0539f2e40b453270986dbb1ab2d55557bdb", func := "example.com/placard/placard/zzlaws_vsix_b1.FnFirstSegmentIsIdempotentSlashFreePrefix", spec := "fnFirstSegmentIsIdempotentSlashFreePrefix", inPlace := ["internal/bytealg.IndexByteString", "internal/bytealg.IndexString"], named := ["internal/bytealg.MaxLen"], apart := false }
def FnFirstSegmentIsIdempotentSlashFreePrefixSaid : Prop := fnFirstSegmentIsIdempotentSlashFreePrefixRow.holds Try.pinned (OpenSpec.ofChange fnFirstSegmentIsIdempotentSlashFreePrefixSpec)

/-- ITS FALSE NEIGHBOUR: 'it returns false'. Refute it at one input. -/
def fnFirstSegmentIsIdempotentSlashFreePrefixWrong : ChangeSpec := { name := "fnFirstSegmentIsIdempotentSlashFreePrefix", fn := fun _ => fun
  | [d] => { results := [.lit (.bool false)], args := [d] }
  | _ => none }
def FnFirstSegmentIsIdempotentSlashFreePrefixWrongFalsely : Prop := fnFirstSegmentIsIdempotentSlashFreePrefixRow.holds Try.pinned (OpenSpec.ofChange fnFirstSegmentIsIdempotentSlashFreePrefixWrong)

/-- 'zzlaws_vsix_b1.FnFirstSegmentOfJoinAtAnyCut': WHATEVER THE INPUT: true; the input reads as it did. -/
def fnFirstSegmentOfJoinAtAnyCutSpec : ChangeSpec := { name := "fnFirstSegmentOfJoinAtAnyCut", fn := fun _ => fun
  | [d1, d2] => { results := [.lit (.bool true)], args := [d1, d2] }
  | _ => none }
def fnFirstSegmentOfJoinAtAnyCutRow : OpenClaim := { program := "qxb6616617a", sum := "a435f757a2fd79e996866bfa6581c0539f2e40b453270986dbb1ab2d55557bdb", func := "example.com/placard/placard/zzlaws_vsix_b1.FnFirstSegmentOfJoinAtAnyCut", spec := "fnFirstSegmentOfJoinAtAnyCut", inPlace := ["internal/bytealg.IndexByteString", "internal/bytealg.IndexString"], named := ["internal/bytealg.MaxLen"], apart := false }
def FnFirstSegmentOfJoinAtAnyCutSaid : Prop := fnFirstSegmentOfJoinAtAnyCutRow.holds Try.pinned (OpenSpec.ofChange fnFirstSegmentOfJoinAtAnyCutSpec)

/-- ITS FALSE NEIGHBOUR: 'it returns false'. Refute it at one input. -/
def fnFirstSegmentOfJoinAtAnyCutWrong : ChangeSpec := { name := "fnFirstSegmentOfJoinAtAnyCut", fn := fun _ => fun
  | [d1, d2] => { results := [.lit (.bool false)], args := [d1, d2] }
  | _ => none }
def FnFirstSegmentOfJoinAtAnyCutWrongFalsely : Prop := fnFirstSegmentOfJoinAtAnyCutRow.holds Try.pinned (OpenSpec.ofChange fnFirstSegmentOfJoinAtAnyCutWrong)

/-- 'zzlaws_vsix_b1.FnEntryNamedAtAnyCut': WHATEVER THE INPUT: true; the input reads as it did. -/
def fnEntryNamedAtAnyCutSpec : ChangeSpec := { name := "fnEntryNamedAtAnyCut", fn := fun _ => fun
  | [d1, d2, d3] => { results := [.lit (.bool true)], args := [d1, d2, d3] }
  | _ => none }
def fnEntryNamedAtAnyCutRow : OpenClaim := { program := "qxb6616617a", sum := "a435f757a2fd79e996866bfa6581c0539f2e40b453270986dbb1ab2d55557bdb", func := "example.com/placard/placard/zzlaws_vsix_b1.FnEntryNamedAtAnyCut", spec := "fnEntryNamedAtAnyCut", apart := false }
def FnEntryNamedAtAnyCutSaid : Prop := fnEntryNamedAtAnyCutRow.holds Try.pinned (OpenSpec.ofChange fnEntryNamedAtAnyCutSpec)

/-- ITS FALSE NEIGHBOUR: 'it returns false'. Refute it at one input. -/
def fnEntryNamedAtAnyCutWrong : ChangeSpec := { name := "fnEntryNamedAtAnyCut", fn := fun _ => fun
  | [d1, d2, d3] => { results := [.lit (.bool false)], args := [d1, d2, d3] }
  | _ => none }
def FnEntryNamedAtAnyCutWrongFalsely : Prop := fnEntryNamedAtAnyCutRow.holds Try.pinned (OpenSpec.ofChange fnEntryNamedAtAnyCutWrong)

/-- 'zzlaws_vsix_b1.FnEntryNamedAfterInsertAnywhere': WHATEVER THE INPUT: true; the input reads as it did. -/
def fnEntryNamedAfterInsertAnywhereSpec : ChangeSpec := { name := "fnEntryNamedAfterInsertAnywhere", fn := fun _ => fun
  | [d1, d2, d3] => { results := [.lit (.bool true)], args := [d1, d2, d3] }
  | _ => none }
def fnEntryNamedAfterInsertAnywhereRow : OpenClaim := { program := "qxb6616617a", sum := "a435f757a2fd79e996866bfa6581c0539f2e40b453270986dbb1ab2d55557bdb", func := "example.com/placard/placard/zzlaws_vsix_b1.FnEntryNamedAfterInsertAnywhere", spec := "fnEntryNamedAfterInsertAnywhere", apart := false }
def FnEntryNamedAfterInsertAnywhereSaid : Prop := fnEntryNamedAfterInsertAnywhereRow.holds Try.pinned (OpenSpec.ofChange fnEntryNamedAfterInsertAnywhereSpec)

/-- ITS FALSE NEIGHBOUR: 'it returns false'. Refute it at one input. -/
def fnEntryNamedAfterInsertAnywhereWrong : ChangeSpec := { name := "fnEntryNamedAfterInsertAnywhere", fn := fun _ => fun
  | [d1, d2, d3] => { results := [.lit (.bool false)], args := [d1, d2, d3] }
  | _ => none }
def FnEntryNamedAfterInsertAnywhereWrongFalsely : Prop := fnEntryNamedAfterInsertAnywhereRow.holds Try.pinned (OpenSpec.ofChange fnEntryNamedAfterInsertAnywhereWrong)

/-- 'zzlaws_vsix_b1.FnManifestOfCarriesWholeListing': WHATEVER THE INPUT: true; the input reads as it did. -/
def fnManifestOfCarriesWholeListingSpec : ChangeSpec := { name := "fnManifestOfCarriesWholeListing", fn := fun _ => fun
  | [d] => { results := [.lit (.bool true)], args := [d] }
  | _ => none }
def fnManifestOfCarriesWholeListingRow : OpenClaim := { program := "qxb6616617a", sum := "a435f757a2fd79e996866bfa6581c0539f2e40b453270986dbb1ab2d55557bdb", func := "example.com/placard/placard/zzlaws_vsix_b1.FnManifestOfCarriesWholeListing", spec := "fnManifestOfCarriesWholeListing", inPlace := ["internal/abi.NoEscape", "internal/bytealg.MakeNoZero"], apart := false }
def FnManifestOfCarriesWholeListingSaid : Prop := fnManifestOfCarriesWholeListingRow.holds Try.pinned (OpenSpec.ofChange fnManifestOfCarriesWholeListingSpec)

/-- ITS FALSE NEIGHBOUR: 'it returns false'. Refute it at one input. -/
def fnManifestOfCarriesWholeListingWrong : ChangeSpec := { name := "fnManifestOfCarriesWholeListing", fn := fun _ => fun
  | [d] => { results := [.lit (.bool false)], args := [d] }
  | _ => none }
def FnManifestOfCarriesWholeListingWrongFalsely : Prop := fnManifestOfCarriesWholeListingRow.holds Try.pinned (OpenSpec.ofChange fnManifestOfCarriesWholeListingWrong)

/-- 'zzlaws_vsix_b1.FnManifestOfListsJoinAtAnyCut': WHATEVER THE INPUT: true; the input reads as it did. -/
def fnManifestOfListsJoinAtAnyCutSpec : ChangeSpec := { name := "fnManifestOfListsJoinAtAnyCut", fn := fun _ => fun
  | [d1, d2] => { results := [.lit (.bool true)], args := [d1, d2] }
  | _ => none }
def fnManifestOfListsJoinAtAnyCutRow : OpenClaim := { program := "qxb6616617a", sum := "a435f757a2fd79e996866bfa6581c0539f2e40b453270986dbb1ab2d55557bdb", func := "example.com/placard/placard/zzlaws_vsix_b1.FnManifestOfListsJoinAtAnyCut", spec := "fnManifestOfListsJoinAtAnyCut", inPlace := ["internal/abi.NoEscape", "internal/bytealg.MakeNoZero"], apart := false }
def FnManifestOfListsJoinAtAnyCutSaid : Prop := fnManifestOfListsJoinAtAnyCutRow.holds Try.pinned (OpenSpec.ofChange fnManifestOfListsJoinAtAnyCutSpec)

/-- ITS FALSE NEIGHBOUR: 'it returns false'. Refute it at one input. -/
def fnManifestOfListsJoinAtAnyCutWrong : ChangeSpec := { name := "fnManifestOfListsJoinAtAnyCut", fn := fun _ => fun
  | [d1, d2] => { results := [.lit (.bool false)], args := [d1, d2] }
  | _ => none }
def FnManifestOfListsJoinAtAnyCutWrongFalsely : Prop := fnManifestOfListsJoinAtAnyCutRow.holds Try.pinned (OpenSpec.ofChange fnManifestOfListsJoinAtAnyCutWrong)

end Rows
end Go.Proofs.Qxb6616617a
