/-
  No cell of these rows narrows 'for every input' (looked for: loops, veiled, ifaces, maps, wideKeys, modest, calm, conditions, laid).
  DERIVED. THE GIVEN ROWS OF THIS SEAT. 3 by the template 'for every input the law returns true; each argument reads behind the call as it read before'; 0 by the template 'total and deterministic' (their statements: Qxb6618537aTotals.lean).
  GIVEN WITH THE SEED: the statements are not yours to turn. If you find one false, say at which input.
  Laid BY PROGRAM, IN A SANDBOX (cutbox-rows.mjs): the forced cells as the released guide's own fill.sh prints them over the translation 9f6e16d9c556d4ae… (all of the seat's roots in one cut). By AI agents, Wed Nov 11 2026. No macro, syntax, notation, axiom, sorry.
-/
import Derived.Test.Qxb6618537aChecked
import GoSem.Claim
import GoSem.ClaimJoined
import GoSem.ClaimMapViews
import Derived.JoinedTies
import Derived.KernelRfl
namespace Go.Proofs.Qxb6618537a
/- THE CELL 'sum', in the pinned program and in every row, IS THE sha256 OF THE DUMP (.gsa) THAT Qxb6618537aProg.lean LOADS. Nothing in Lean hashes anything: it is a label: what it is worth is what the hold of that sum in a sandbox is worth. -/
noncomputable def Try.pinned : Pinned := { name := "qxb6618537a", sum := "9f6e16d9c556d4ae23876c91b4abc9ced568776263a4d09272cb700675a5378f", checked := Try.checked }
namespace Rows
def none {H : Type} : Left H := { results := [], args := [] }

/-- 'zzlaws_root_b1.FnNotUTF8CutAnywhere': WHATEVER THE INPUT: true; the input reads as it did. -/
def fnNotUTF8CutAnywhereSpec : ChangeSpec := { name := "fnNotUTF8CutAnywhere", fn := fun _ => fun
  | [d1, d2] => { results := [.lit (.bool true)], args := [d1, d2] }
  | _ => none }
def fnNotUTF8CutAnywhereRow : OpenClaim := { program := "qxb6618537a", sum := "9f6e16d9c556d4ae23876c91b4abc9ced568776263a4d09272cb700675a5378f", func := "example.com/any-ini/any-ini/zzlaws_root_b1.FnNotUTF8CutAnywhere", spec := "fnNotUTF8CutAnywhere", apart := false }
def FnNotUTF8CutAnywhereSaid : Prop := fnNotUTF8CutAnywhereRow.holds Try.pinned (OpenSpec.ofChange fnNotUTF8CutAnywhereSpec)

/-- ITS FALSE NEIGHBOUR: 'it returns false'. Refute it at one input. -/
def fnNotUTF8CutAnywhereWrong : ChangeSpec := { name := "fnNotUTF8CutAnywhere", fn := fun _ => fun
  | [d1, d2] => { results := [.lit (.bool false)], args := [d1, d2] }
  | _ => none }
def FnNotUTF8CutAnywhereWrongFalsely : Prop := fnNotUTF8CutAnywhereRow.holds Try.pinned (OpenSpec.ofChange fnNotUTF8CutAnywhereWrong)

/-- 'zzlaws_root_b1.FnNotUTF8Injective': WHATEVER THE INPUT: true; the input reads as it did. -/
def fnNotUTF8InjectiveSpec : ChangeSpec := { name := "fnNotUTF8Injective", fn := fun _ => fun
  | [d1, d2] => { results := [.lit (.bool true)], args := [d1, d2] }
  | _ => none }
def fnNotUTF8InjectiveRow : OpenClaim := { program := "qxb6618537a", sum := "9f6e16d9c556d4ae23876c91b4abc9ced568776263a4d09272cb700675a5378f", func := "example.com/any-ini/any-ini/zzlaws_root_b1.FnNotUTF8Injective", spec := "fnNotUTF8Injective", apart := false }
def FnNotUTF8InjectiveSaid : Prop := fnNotUTF8InjectiveRow.holds Try.pinned (OpenSpec.ofChange fnNotUTF8InjectiveSpec)

/-- ITS FALSE NEIGHBOUR: 'it returns false'. Refute it at one input. -/
def fnNotUTF8InjectiveWrong : ChangeSpec := { name := "fnNotUTF8Injective", fn := fun _ => fun
  | [d1, d2] => { results := [.lit (.bool false)], args := [d1, d2] }
  | _ => none }
def FnNotUTF8InjectiveWrongFalsely : Prop := fnNotUTF8InjectiveRow.holds Try.pinned (OpenSpec.ofChange fnNotUTF8InjectiveWrong)

/-- 'zzlaws_root_b1.FnAboveBlankCountUpTo': WHATEVER THE INPUT: true; the input reads as it did. -/
def fnAboveBlankCountUpToSpec : ChangeSpec := { name := "fnAboveBlankCountUpTo", fn := fun _ => fun
  | [d] => { results := [.lit (.bool true)], args := [d] }
  | _ => none }
def fnAboveBlankCountUpToRow : OpenClaim := { program := "qxb6618537a", sum := "9f6e16d9c556d4ae23876c91b4abc9ced568776263a4d09272cb700675a5378f", func := "example.com/any-ini/any-ini/zzlaws_root_b1.FnAboveBlankCountUpTo", spec := "fnAboveBlankCountUpTo", apart := false }
def FnAboveBlankCountUpToSaid : Prop := fnAboveBlankCountUpToRow.holds Try.pinned (OpenSpec.ofChange fnAboveBlankCountUpToSpec)

/-- ITS FALSE NEIGHBOUR: 'it returns false'. Refute it at one input. -/
def fnAboveBlankCountUpToWrong : ChangeSpec := { name := "fnAboveBlankCountUpTo", fn := fun _ => fun
  | [d] => { results := [.lit (.bool false)], args := [d] }
  | _ => none }
def FnAboveBlankCountUpToWrongFalsely : Prop := fnAboveBlankCountUpToRow.holds Try.pinned (OpenSpec.ofChange fnAboveBlankCountUpToWrong)

end Rows
end Go.Proofs.Qxb6618537a
