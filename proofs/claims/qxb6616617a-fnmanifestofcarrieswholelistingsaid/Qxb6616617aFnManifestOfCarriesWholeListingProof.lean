/-
  THE PROOF OF 'Rows.FnManifestOfCarriesWholeListingSaid': the argument opened (Open), the walk (Walk7), the argument read again.
-/
import Derived.Test.Qxb6616617aRows
import Derived.Test.Qxb6616617aOpen
import Derived.Test.Qxb6616617aWalk7
import Derived.WalkKit
import Derived.ProofKit
import Derived.OpenShut
import Derived.ShutString
import Derived.Stop.Joined
namespace Go.Proofs.Qxb6616617a.fnManifestOfCarriesWholeListing
open Go.ChangeShapes Go.WideShapes Go.ChangeAt Go.RowKit
set_option linter.unusedVariables false

theorem own : ownKnob Try.prog.godebug = none := by kernel_rfl
theorem laidOut : laidOutB Try.prog = true := by kernel_rfl

set_option maxRecDepth 100000 in
theorem lifted (os : Os) (started : os.Started) (H : Type) (enc : TypeId × Value → H) :
    ReturnsInHanded {} Try.checked os 7 .any (Rows.fnManifestOfCarriesWholeListingSpec.pre6 enc Try.prog Try.f7 Rows.fnManifestOfCarriesWholeListingRow.domain false) (Rows.fnManifestOfCarriesWholeListingSpec.post enc Try.prog Try.f7 false true false false) := by
  refine returnsInHanded_of_change (C := Try.checked) own started (by kernel_rfl) Try.func7
    (ChangeSpec.witness6 (enc := enc) (C := Try.checked) false ⟨#[], #[.agg #[.string ByteArray.empty, .string ByteArray.empty, .string ByteArray.empty, .string ByteArray.empty, .string ByteArray.empty, .string ByteArray.empty, .string ByteArray.empty, .slice none 0 0, .slice none 0 0, .slice none 0 0, .slice none 0 0, .slice none 0 0, .slice none 0 0, .slice none 0 0, .slice none 0 0, .slice none 0 0]], []⟩ 8 (by kernel_rfl) (by kernel_rfl) (by kernel_rfl) (by kernel_rfl)) ?_
  intro w0 base args ds gs before hval0 hW hcnd _
  have hval : ∀ (j : Nat) t v, Try.f7.params[j]? = some t → args[j]? = some v → Value.okWide Try.prog w0 .any base t v := hval0
  have hW' := hW
  obtain ⟨p, q, hA0, hV, rfl, hfz, hnd⟩ := hW
  have hA : DataW.TrodAll enc Try.prog w0 0 (fun _ => true) true Try.f7.params.toList args.toList ds p := hA0
  rw [Try.params7] at hA hval
  obtain ⟨v0, vs0, d0, ds0, p0, q0, hargs, rfl, rfl, h0, r0⟩ := trodAll_cons hA
  obtain ⟨rfl, rfl, rfl⟩ := trodAll_nil r0
  obtain rfl : args = #[v0] := by cases args; simp_all
  obtain ⟨rfl, rfl⟩ := trodVars_none hV
  obtain ⟨cs, rfl, hcs⟩ := okWide_struct Try.underlying70 (hval 0 70 v0 rfl rfl)
  have h0k := h0
  obtain ⟨fuel0, hf0⟩ := h0
  obtain ⟨e, rfl, hL, hwf, c7, c8, c9, c10, c11, c12, c15⟩ := W.open_ext Try.underlying70 (by simp)
    (fun _ _ _ h => W.open_pairs Try.underlying64 W.cells107 Try.underlying107 rfl rfl rfl rfl h)
    (fun _ _ _ h => W.open_trips Try.underlying65 W.cells114 Try.underlying114 rfl rfl rfl rfl rfl rfl h)
    (fun _ _ _ h => W.open_pairs Try.underlying66 W.cells118 Try.underlying118 rfl rfl rfl rfl h)
    (fun _ _ _ h => W.open_insts Try.underlying129 rfl rfl rfl rfl (fun _ _ _ h => W.open_range Try.underlying131 rfl rfl rfl rfl rfl rfl rfl rfl h) h)
    (fun _ _ _ h => W.open_files Try.underlying120 rfl rfl rfl rfl rfl rfl rfl rfl rfl rfl h) hf0
  have hlt : ∀ x ∈ p0, x.block < w0.heap.size := fun x hx => hW'.lt x (by simpa using hx)
  clear hA0 hval0
  have e1 : Rows.fnManifestOfCarriesWholeListingSpec.fn H ([d0] ++ []) = { results := [.lit (.bool true)], args := [d0] } := rfl
  refine (W.walk7 e w0 hL hwf c7 c8 c11).mono ?_
  rintro x W' ⟨rfl, bel⟩
  refine ⟨_, rfl, _, _, _, [], p0, [], by simpa using hW', ?_, ?_, ?_, bel.frame _, fun h => by cases h⟩
  · rw [e1]; exact trodAll_mk1 (shut_bool Try.underlying4 _)
  · rw [e1]
    have := trodAll_cons_mk (Below.trod laidOut (by kernel_rfl) (of_decide_eq_true (by kernel_rfl)) h0k bel hlt) trodAll_mk0
    simp only [List.append_nil] at this
    exact this
  · rw [e1]; rfl

theorem over : Rows.fnManifestOfCarriesWholeListingRow.holds Try.pinned (OpenSpec.ofChange Rows.fnManifestOfCarriesWholeListingSpec) :=
  OpenClaim.holds_of_wide 7 Try.f7 rfl rfl rfl rfl rfl rfl rfl ⟨rfl, rfl, rfl, rfl, rfl⟩ rfl rfl rfl rfl rfl (by kernel_rfl) Try.func7 (by kernel_rfl)
    (of_decide_eq_true (by kernel_rfl)) (by unfold Func.isWrapper; first | (rw [if_pos (by decide +kernel)]; kernel_rfl) | (rw [if_neg (by decide +kernel)]; exact ⟨rfl, rfl⟩))
    (fun os started H enc _ => lifted os started H enc)

/-- THE STATEMENT. -/
theorem proved : Rows.FnManifestOfCarriesWholeListingSaid :=
  over
end Go.Proofs.Qxb6616617a.fnManifestOfCarriesWholeListing
