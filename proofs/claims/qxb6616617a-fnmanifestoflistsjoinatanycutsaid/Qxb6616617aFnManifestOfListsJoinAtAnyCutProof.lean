/-
  THE PROOF OF 'Rows.FnManifestOfListsJoinAtAnyCutSaid': the argument opened (Open), the walk (Walk8), the argument read again.
-/
import Derived.Test.Qxb6616617aRows
import Derived.Test.Qxb6616617aOpen
import Derived.Test.Qxb6616617aWalk8
import Derived.WalkKit
import Derived.ProofKit
import Derived.OpenShut
import Derived.ShutString
import Derived.Stop.Joined
namespace Go.Proofs.Qxb6616617a.fnManifestOfListsJoinAtAnyCut
open Go.ChangeShapes Go.WideShapes Go.ChangeAt Go.RowKit
set_option linter.unusedVariables false

theorem own : ownKnob Try.prog.godebug = none := by kernel_rfl
theorem laidOut : laidOutB Try.prog = true := by kernel_rfl

set_option maxRecDepth 100000 in
theorem lifted (os : Os) (started : os.Started) (H : Type) (enc : TypeId × Value → H) :
    ReturnsInHanded {} Try.checked os 8 .any (Rows.fnManifestOfListsJoinAtAnyCutSpec.pre6 enc Try.prog Try.f8 Rows.fnManifestOfListsJoinAtAnyCutRow.domain false) (Rows.fnManifestOfListsJoinAtAnyCutSpec.post enc Try.prog Try.f8 false true false false) := by
  refine returnsInHanded_of_change (C := Try.checked) own started (by kernel_rfl) Try.func8
    (ChangeSpec.witness6 (enc := enc) (C := Try.checked) false ⟨#[], #[.agg #[.string ByteArray.empty, .string ByteArray.empty, .string ByteArray.empty, .string ByteArray.empty, .string ByteArray.empty, .string ByteArray.empty, .string ByteArray.empty, .slice none 0 0, .slice none 0 0, .slice none 0 0, .slice none 0 0, .slice none 0 0, .slice none 0 0, .slice none 0 0, .slice none 0 0, .slice none 0 0], .int .i64 0], []⟩ 8 (by kernel_rfl) (by kernel_rfl) (by kernel_rfl) (by kernel_rfl)) ?_
  intro w0 base args ds gs before hval0 hW hcnd _
  have hval : ∀ (j : Nat) t v, Try.f8.params[j]? = some t → args[j]? = some v → Value.okWide Try.prog w0 .any base t v := hval0
  have hW' := hW
  obtain ⟨p, q, hA0, hV, rfl, hfz, hnd⟩ := hW
  have hA : DataW.TrodAll enc Try.prog w0 0 (fun _ => true) true Try.f8.params.toList args.toList ds p := hA0
  rw [Try.params8] at hA hval
  obtain ⟨v0, vs0, d0, ds0, p0, q0, hargs, rfl, rfl, h0, r0⟩ := trodAll_cons hA
  obtain ⟨v1, vs1, d1, ds1, p1, q1, rfl, rfl, rfl, h1, r1⟩ := trodAll_cons r0
  obtain ⟨rfl, rfl, rfl⟩ := trodAll_nil r1
  obtain rfl : args = #[v0, v1] := by cases args; simp_all
  obtain ⟨rfl, rfl⟩ := trodVars_none hV
  obtain ⟨cs, rfl, hcs⟩ := okWide_struct Try.underlying70 (hval 0 70 v0 rfl rfl)
  obtain ⟨c, rfl, rfl, rfl, wc⟩ := open_int Try.underlying3 (hval 1 3 v1 rfl rfl) h1
  have h0k := h0
  obtain ⟨fuel0, hf0⟩ := h0
  obtain ⟨e, rfl, hL, hwf, c7, c8, c9, c10, c11, c12, c15⟩ := W.open_ext Try.underlying70 (by simp)
    (fun _ _ _ h => W.open_pairs Try.underlying64 W.cells107 Try.underlying107 rfl rfl rfl rfl h)
    (fun _ _ _ h => W.open_trips Try.underlying65 W.cells114 Try.underlying114 rfl rfl rfl rfl rfl rfl h)
    (fun _ _ _ h => W.open_pairs Try.underlying66 W.cells118 Try.underlying118 rfl rfl rfl rfl h)
    (fun _ _ _ h => W.open_insts Try.underlying129 rfl rfl rfl rfl (fun _ _ _ h => W.open_range Try.underlying131 rfl rfl rfl rfl rfl rfl rfl rfl h) h)
    (fun _ _ _ h => W.open_files Try.underlying120 rfl rfl rfl rfl rfl rfl rfl rfl rfl rfl h) hf0
  have hlt : ∀ x ∈ p0, x.block < w0.heap.size := fun x hx => hW'.lt x (by simpa using hx)
  clear hA0 hval0
  have e1 : Rows.fnManifestOfListsJoinAtAnyCutSpec.fn H ([d0, .lit (.int .i64 c)] ++ []) = { results := [.lit (.bool true)], args := [d0, .lit (.int .i64 c)] } := rfl
  obtain ⟨a7, n7, m7, hv7, e7⟩ : ∃ a n m, e.v7 = .slice a n m ∧ n = e.T.length := by obtain ⟨b, o, ⟨a, m, hv, _⟩, _⟩ := hL.T; exact ⟨a, _, m, hv, rfl⟩
  obtain ⟨a8, n8, m8, hv8, e8⟩ : ∃ a n m, e.v8 = .slice a n m ∧ n = e.G.length := by obtain ⟨b, o, ⟨a, m, hv, _⟩, _⟩ := hL.G; exact ⟨a, _, m, hv, rfl⟩
  obtain ⟨a9, n9, m9, hv9, e9⟩ : ∃ a n m, e.v9 = .slice a n m ∧ n = e.P.length := by obtain ⟨b, o, ⟨a, m, hv, _⟩, _⟩ := hL.P; exact ⟨a, _, m, hv, rfl⟩
  obtain ⟨a10, n10, m10, hv10, e10⟩ : ∃ a n m, e.v10 = .slice a n m ∧ n = e.B.length := by obtain ⟨b, o, ⟨a, m, hv, _⟩, _⟩ := hL.B; exact ⟨a, _, m, hv, rfl⟩
  obtain ⟨a11, n11, m11, hv11, e11⟩ : ∃ a n m, e.v11 = .slice a n m ∧ n = e.C.length := by obtain ⟨b, o, ⟨a, m, hv, _⟩, _⟩ := hL.C; exact ⟨a, _, m, hv, rfl⟩
  obtain ⟨a12, n12, m12, hv12, e12⟩ : ∃ a n m, e.v12 = .slice a n m ∧ n = e.Tg.length := by obtain ⟨b, o, ⟨a, m, hv, _⟩, _⟩ := hL.Tg; exact ⟨a, _, m, hv, rfl⟩
  obtain ⟨a15, n15, m15, hv15, e15⟩ : ∃ a n m, e.v15 = .slice a n m ∧ n = e.F.length := by obtain ⟨b, o, ⟨a, m, hv, _⟩, _⟩ := hL.F; exact ⟨a, _, m, hv, rfl⟩
  subst e7 e8 e9 e10 e11 e12 e15
  have hs : W.Sl.Of ⟨a7, m7, a8, m8, a9, m9, a10, m10, a11, m11, a12, m12, a15, m15⟩ e := ⟨hv7, hv8, hv9, hv10, hv11, hv12, hv15, c7 _ _ _ hv7, c8 _ _ _ hv8, c9 _ _ _ hv9, c10 _ _ _ hv10, c11 _ _ _ hv11, c12 _ _ _ hv12, c15 _ _ _ hv15⟩
  refine (W.walk8 e _ c w0 hL hwf hs c7 c8 c11).mono ?_
  rintro x W' ⟨rfl, bel⟩
  refine ⟨_, rfl, _, _, _, [], p0, [], by simpa using hW', ?_, ?_, ?_, bel.frame _, fun h => by cases h⟩
  · rw [e1]; exact trodAll_mk1 (shut_bool Try.underlying4 _)
  · rw [e1]
    have := trodAll_cons_mk (Below.trod laidOut (by kernel_rfl) (of_decide_eq_true (by kernel_rfl)) h0k bel hlt) (trodAll_cons_mk (shut_int Try.underlying3 wc) trodAll_mk0)
    simp only [List.append_nil] at this
    exact this
  · rw [e1]; rfl

theorem over : Rows.fnManifestOfListsJoinAtAnyCutRow.holds Try.pinned (OpenSpec.ofChange Rows.fnManifestOfListsJoinAtAnyCutSpec) :=
  OpenClaim.holds_of_wide 8 Try.f8 rfl rfl rfl rfl rfl rfl rfl ⟨rfl, rfl, rfl, rfl, rfl⟩ rfl rfl rfl rfl rfl (by kernel_rfl) Try.func8 (by kernel_rfl)
    (of_decide_eq_true (by kernel_rfl)) (by unfold Func.isWrapper; first | (rw [if_pos (by decide +kernel)]; kernel_rfl) | (rw [if_neg (by decide +kernel)]; exact ⟨rfl, rfl⟩))
    (fun os started H enc _ => lifted os started H enc)

/-- THE STATEMENT. -/
theorem proved : Rows.FnManifestOfListsJoinAtAnyCutSaid :=
  over
end Go.Proofs.Qxb6616617a.fnManifestOfListsJoinAtAnyCut
