/-
  THE PROOF OF 'Rows.FnExtsListSpaceAtAnyCutCardSaid': the row's statement over the walk, then the tied card by the builder's one call.
-/
import Derived.Test.Qxb6618638aDoorRows
import Derived.Test.Qxb6618638aDoorTie
import Derived.Test.Qxb6618638aDoorCards
import Derived.Test.Qxb6618638aDoorLaid
import Derived.Test.Qxb6618638aDoorWalk3
import Derived.SevenTiedAt
namespace Go.Proofs.Qxb6618638aDoor.fnExtsListSpaceAtAnyCut
open Go.ChangeShapes Go.WideShapes Go.ChangeAt Go.RowKit
set_option linter.unusedVariables false

set_option maxRecDepth 100000 in
theorem lifted (os : Os) (started : os.Started) (H : Type) (enc : TypeId × Value → H) :
    ReturnsInHanded {} Tryd.checked os 3 .any (fun w args => (Rows.fnExtsListSpaceAtAnyCutSpec.pre enc Tryd.prog Tryd.f3 [] false w args ∧ laidMetH Tryd.prog laid2 w) ∧ sizedMet enc Tryd.prog Tryd.f3 (OpenSpec.ofChange Rows.fnExtsListSpaceAtAnyCutSpec) false w args)
      (Rows.fnExtsListSpaceAtAnyCutSpec.post enc Tryd.prog Tryd.f3 false true false false) := by
  refine returnsInHanded_of_change_and (C := Tryd.checked) (X := fun w _ => laidMetH Tryd.prog laid2 w) (fun _ _ _ hh h => h.of_heap hh) own started (by kernel_rfl) Tryd.func3
    (ChangeSpec.witness_shaped (enc := enc) (C := Tryd.checked) (os := os) (X := fun w _ => laidMetH Tryd.prog laid2 w) false (World.doorLaid Tryd.prog 400 os) #[.slice none 0 0, .slice none 0 0, .int .i64 0] 8 rfl (World.shaped_of_RefB (by kernel_rfl) (by kernel_rfl)) (by kernel_rfl) (by kernel_rfl) (by kernel_rfl) (door_met os _)) ?_
  intro w0 base args ds gs before hval0 hW _ _ hL _
  have hval : ∀ (j : Nat) t v, Tryd.f3.params[j]? = some t → args[j]? = some v → Value.okWide Tryd.prog w0 .any base t v := hval0
  have hW' := hW
  obtain ⟨p, q, hA0, hVr, rfl, hfz, hnd⟩ := hW
  have hA : DataW.TrodAll enc Tryd.prog w0 0 (fun _ => true) true Tryd.f3.params.toList args.toList ds p := hA0
  rw [Tryd.params3] at hA hval
  obtain ⟨v0, vs0, d0, ds0, p0, q0, hargs, rfl, rfl, h0, r0⟩ := trodAll_cons hA
  obtain ⟨v1, vs1, d1, ds1, p1, q1, rfl, rfl, rfl, h1, r1⟩ := trodAll_cons r0
  obtain ⟨v2, vs2, d2, ds2, p2, q2, rfl, rfl, rfl, h2, r2⟩ := trodAll_cons r1
  obtain ⟨rfl, rfl, rfl⟩ := trodAll_nil r2
  obtain rfl : args = #[v0, v1, v2] := by cases args; simp_all
  obtain ⟨rfl, rfl⟩ := trodVars_none hVr
  obtain ⟨a0, l0, c0, rfl⟩ := okWide_slice Tryd.underlying22 (hval 0 22 v0 rfl rfl)
  obtain ⟨a1, l1, c1, rfl⟩ := okWide_slice Tryd.underlying22 (hval 1 22 v1 rfl rfl)
  obtain ⟨c, rfl, rfl, rfl, wc⟩ := open_int Tryd.underlying3 (hval 2 3 v2 rfl rfl) h2
  have hwc : -9223372036854775808 ≤ c ∧ c ≤ 9223372036854775807 := by simpa [Lit.wf, IntKind.min, IntKind.max, IntKind.signed, IntKind.bits] using wc
  have h0k := h0
  have h1k := h1
  obtain ⟨fuel0, hf0⟩ := h0
  obtain ⟨fuel1, hf1⟩ := h1
  obtain ⟨Ks, hK, hk1, hk2⟩ := open_arg hf0
  obtain ⟨Vs, hV, hv1, hv2⟩ := open_arg hf1
  have hlt : ∀ x ∈ p0 ++ p1, x.block < w0.heap.size := fun x hx => hW'.lt x (by simpa using hx)
  have hpos : 0 < w0.heap.size := by
    obtain ⟨T, oT, R, oR, hc, _⟩ := (tabs_of_laid hL).2
    have := cell_lt hc
    omega
  clear hA0 hval0
  have e1 : Rows.fnExtsListSpaceAtAnyCutSpec.fn H ([d0, d1, .lit (.int .i64 c)] ++ []) = { results := [.lit (.bool true)], args := [d0, d1, .lit (.int .i64 c)] } := rfl
  refine (W.walk3 _ _ c Ks Vs w0 (by omega) (by omega) hk1 hv1 hk2 hv2 hK hV (tabs_of_laid hL) hpos).mono ?_
  rintro e W' ⟨rfl, bel⟩
  refine ⟨_, rfl, _, _, _, [], p0 ++ p1, [], by simpa using hW', ?_, ?_, ?_, bel.frame _, fun h => by cases h⟩
  · rw [e1]; exact trodAll_mk1 (shut_bool Tryd.underlying4 _)
  · rw [e1]
    have := trodAll_cons_mk (Below.trod laidOut (by kernel_rfl) (of_decide_eq_true (by kernel_rfl)) h0k bel (fun x hx => hlt x (by simp [hx]))) (trodAll_cons_mk (Below.trod laidOut (by kernel_rfl) (of_decide_eq_true (by kernel_rfl)) h1k bel (fun x hx => hlt x (by simp [hx]))) (trodAll_cons_mk (shut_int Tryd.underlying3 wc) trodAll_mk0))
    simp only [List.append_nil] at this
    exact this
  · rw [e1]; rfl

theorem over : Rows.FnExtsListSpaceAtAnyCutSaid :=
  OpenClaim.holds_of_wide 3 Tryd.f3 rfl rfl rfl rfl rfl rfl rfl ⟨rfl, rfl, rfl, rfl, rfl⟩ rfl rfl rfl rfl rfl (by kernel_rfl) Tryd.func3 (by kernel_rfl)
    (of_decide_eq_true (by kernel_rfl)) (by unfold Func.isWrapper; first | (rw [if_pos (by decide +kernel)]; kernel_rfl) | (rw [if_neg (by decide +kernel)]; exact ⟨rfl, rfl⟩))
    (fun os started H enc _ => lifted os started H enc)

/-- THE STATEMENT: the tied card. -/
theorem proved : Rows.FnExtsListSpaceAtAnyCutCardSaid :=
  Claim7.holds_tied_plain_at .later [] [.listed, .data] true Rows.fnExtsListSpaceAtAnyCutCard.stood.harness false
    over (fun _ h => by cases h) (by kernel_rfl) (fun _ h => by cases h) fnExtsListSpaceAtAnyCut_row_tie rfl ⟨rfl, rfl⟩ (by kernel_rfl) rfl
    (fun f fn hf hfn => by
      obtain rfl : f = 3 := Option.some.inj ((show Tryd.prog.funcNamed Rows.fnExtsListSpaceAtAnyCutRow.func = some 3 by kernel_rfl).symm.trans hf) |>.symm
      obtain rfl : fn = Tryd.f3 := (Option.some.inj (Tryd.func3.symm.trans hfn)).symm
      exact ⟨by kernel_rfl, fun j t ht => by
        rw [Tryd.params3] at ht
        have hm : t ∈ [22, 22, 3] := by simpa using Array.mem_of_getElem? ht
        have hall : ([22, 22, 3].all fun u => !Tryd.prog.wantsStandIn u) = true := by kernel_rfl
        exact (show Tryd.prog.wantsStandIn t = false by simpa using List.all_eq_true.1 hall t hm)⟩)
    (by kernel_rfl)
end Go.Proofs.Qxb6618638aDoor.fnExtsListSpaceAtAnyCut
