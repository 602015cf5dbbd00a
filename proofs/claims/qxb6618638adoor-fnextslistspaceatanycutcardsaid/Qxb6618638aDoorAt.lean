/-
  The callees as the laws take them.
-/
import Derived.Test.Qxb6618638aDoorRowsOf
namespace Go.Proofs.Qxb6618638aDoor.W
open Go.ChangeShapes Go.WideShapes Go.ChangeAt Go.RowKit Go.Maps
set_option linter.unusedVariables false

/-- ZZextsList as the laws take it. -/
theorem exts_at {M n : Nat} {D : MD} (w : World) (S : ByteArray) (hown : w.ownsMap Tryd.prog 9 (plainElem Tryd.prog 9) M n D) (hS : D.atKey nameK (.lit (.string [])) = .lit (.string S.data.toList)) (hs : S.size ≤ 3000000) (hT : Tabs w) :
    Calls Tryd.prog 8 #[.map (some M)] w fun e w' => ∃ (V : Value) (A nn : Nat), V = .slice (some ⟨A, 0, none⟩) nn nn ∧ nn = (words S).length ∧ e = .returned (.tuple #[V, .bool (Maps.has D nameK)]) ∧ Row M w' V (words S) ∧ Below w.heap.size w w' := by
  refine (zzExtsList w S hown hS hs hT).mono ?_
  rintro e w' ⟨A, rfl, hrow, hb⟩
  exact ⟨_, A, _, rfl, rfl, rfl, Row.of hrow hown.lt, hb⟩

/-- zzFields as the laws take it. -/
theorem fields_at (M : Nat) (s : ByteArray) (w : World) (hs : s.size ≤ 2000000) (hM : M < w.heap.size) :
    Calls Tryd.prog 10 #[.string s] w fun e w' => ∃ V, e = .returned V ∧ Row M w' V (words s) ∧ Below w.heap.size w w' := by
  refine (zzFields s w hs).mono ?_
  rintro e w' ⟨V, rfl, hrow, hb⟩
  exact ⟨V, rfl, Row.of hrow hM, hb⟩

/-- zzSameStrings on two rows of the same words. -/
theorem same_at (M : Nat) (v1 v2 : Value) (ls : List (List UInt8)) (w : World) (hl : ls.length ≤ 4000000) (h1 : Row M w v1 ls) (h2 : Row M w v2 ls) :
    Calls Tryd.prog 9 #[v1, v2] w fun e w' => e = .returned (.bool true) ∧ ∃ n, w' = w.drewN n :=
  same v1 v2 (ls.map mkB) w (by simpa using hl) h1.strs h2.strs

def nearB : List ByteArray := [{ data := #[69, 88, 84, 83, 95, 76, 73, 83, 84] }, { data := #[69, 120, 116, 115, 95, 76, 105, 115, 116] }, { data := #[101, 120, 116, 115, 45, 108, 105, 115, 116] }, { data := #[101, 120, 116, 115, 108, 105, 115, 116] }, { data := #[101, 120, 116, 115, 95, 108, 105, 115, 116, 42] }, { data := #[101, 120, 116, 115, 95, 108, 105, 115, 116, 32] }, { data := #[32, 101, 120, 116, 115, 95, 108, 105, 115, 116] }, { data := #[101, 120, 116, 115, 95, 108, 105, 115] }, { data := #[101, 120, 116, 115, 95, 108, 105, 115, 116, 48] }, { data := #[120, 45, 101, 120, 116, 115, 95, 108, 105, 115, 116] }]

theorem near_apart : ∀ X ∈ nearB, X.data.toList ≠ nameB.data.toList ∧ X.size ≤ 20 := by decide

set_option maxHeartbeats 1000000 in
theorem nearNames (w : World) :
    Calls Tryd.prog 12 #[] w fun e w' => e = .returned (.slice (some ⟨w.heap.size, 0, none⟩) 10 10) ∧ (∀ (j : Nat) X, nearB[j]? = some X → w'.cell? ⟨w.heap.size, j, none⟩ = some (.string X)) ∧ Below w.heap.size w w' ∧ w'.heap.size = w.heap.size + 1 := by
  go_enter Tryd.func12, Tryd.ntmps12
  go_wp2
  go_ret
  refine ⟨rfl, ?_, (Below.refl _ _).alloc (Nat.le_refl _) _, by simp⟩
  intro j X hX
  have hj : j < 10 := (List.getElem?_eq_some_iff.1 hX).1
  have hc : ∀ j : Fin 10, (nearB[j.val]?).map Value.string = (#[Value.string { data := #[69, 88, 84, 83, 95, 76, 73, 83, 84] }, .string { data := #[69, 120, 116, 115, 95, 76, 105, 115, 116] }, .string { data := #[101, 120, 116, 115, 45, 108, 105, 115, 116] }, .string { data := #[101, 120, 116, 115, 108, 105, 115, 116] }, .string { data := #[101, 120, 116, 115, 95, 108, 105, 115, 116, 42] }, .string { data := #[101, 120, 116, 115, 95, 108, 105, 115, 116, 32] }, .string { data := #[32, 101, 120, 116, 115, 95, 108, 105, 115, 116] }, .string { data := #[101, 120, 116, 115, 95, 108, 105, 115] }, .string { data := #[101, 120, 116, 115, 95, 108, 105, 115, 116, 48] }, .string { data := #[120, 45, 101, 120, 116, 115, 95, 108, 105, 115, 116] }] : Array Value)[j.val]? := by
    intro j
    match j with
    | 0 | 1 | 2 | 3 | 4 | 5 | 6 | 7 | 8 | 9 => rfl
  have := hc ⟨j, hj⟩
  rw [hX] at this
  simp only [Option.map_some] at this
  rw [World.cell?_alloc_new]
  exact this.symm

end Go.Proofs.Qxb6618638aDoor.W
