/-
  strings.Join at a list of strings that is not long.
-/
import Derived.Test.Qxb6616617aShapes
import Derived.Test.Qxb6616617aShelf
namespace Go.Proofs.Qxb6616617a.W
open Go.ChangeShapes Go.WideShapes Go.ChangeAt Go.RowKit
set_option linter.unusedVariables false

/-- The strings, one behind another, sep between. -/
def glue (Xs : List ByteArray) (c : UInt8) : ByteArray := ⟨(Lib.join (Xs.map (·.data.toList)) [c]).toArray⟩

/-- No slice is longer than its room. -/
def Cap (v : Value) : Prop := ∀ a n c, v = .slice a n c → n ≤ c

theorem tail_le (c : UInt8) : ∀ (r : List ByteArray), (∀ X ∈ r, X.size ≤ 1048576) → (Lib.joinTail [c] (r.map (·.data.toList))).length ≤ r.length * 1048577 := by
  intro r
  induction r with
  | nil => intro _; simp [Lib.joinTail]
  | cons x r ih =>
    intro h
    have h1 := h x (by simp)
    have h2 := ih fun X hX => h X (by simp [hX])
    have hx : x.data.toList.length = x.size := Array.length_toList
    simp only [Lib.joinTail, List.map_cons, List.flatten_cons, List.length_append, List.length_cons, List.length_nil] at h2 ⊢
    omega

theorem glue_le (Xs : List ByteArray) (c : UInt8) (hn : Xs.length ≤ 1048576) (h : ∀ X ∈ Xs, X.size ≤ 1048576) : (Lib.join (Xs.map (·.data.toList)) [c]).length ≤ 140737488355328 := by
  cases Xs with
  | nil => simp [Lib.join]
  | cons x r =>
    have h1 := h x (by simp)
    have h2 := tail_le c r fun X hX => h X (by simp [hX])
    have hx : x.data.toList.length = x.size := Array.length_toList
    rw [List.map_cons, Lib.join_cons, List.length_append]
    simp only [List.length_cons] at hn
    omega

theorem glue_nil (c : UInt8) : glue [] c = ⟨#[]⟩ := by simp [glue, Lib.join]

theorem join34 {w : World} {v : Value} {Xs : List ByteArray} (c : UInt8) (h : Texts w v Xs) (hcap : Cap v) (hn : Xs.length ≤ 1048576) (hx : ∀ X ∈ Xs, X.size ≤ 1048576) :
    Calls Try.prog 34 #[v, .string ⟨#[c]⟩] w fun x w' => x = .returned (.string (glue Xs c)) ∧ Below w.heap.size w w' := by
  obtain ⟨b, o, ⟨a, cp, hv, ha, _⟩, hc⟩ := h
  have hcp := hcap _ _ _ hv
  by_cases h0 : 0 < Xs.length
  · obtain ⟨rfl, hb⟩ := ha h0
    rw [hv]
    exact Try.strings_Join b o cp Xs ⟨#[c]⟩ w hc hb (by omega) hcp (glue_le Xs c hn hx)
  · have e0 : Xs = [] := List.length_eq_zero_iff.1 (by omega)
    subst e0
    rw [hv]
    refine (Try.strings_Join_none a cp ⟨#[c]⟩ w).mono ?_
    rintro x w' ⟨rfl, rfl⟩
    exact ⟨by rw [glue_nil], Below.refl _ _⟩

/-! ### where each string lies in the whole -/
/-- How far the whole reaches in front of the i-th (its separator not counted). -/
def reach (Xs : List ByteArray) (i : Nat) : Nat :=
  match Xs with
  | [] => 0
  | x :: r => if i = 0 then 0 else x.size + ((r.take (i - 1)).map (fun y => y.size + 1)).sum

theorem reach_zero (Xs : List ByteArray) : reach Xs 0 = 0 := by cases Xs <;> simp [reach]
theorem tail_len (c : UInt8) (r : List ByteArray) : (Lib.joinTail [c] (r.map (·.data.toList))).length = (r.map (fun y => y.size + 1)).sum := by
  induction r with
  | nil => simp [Lib.joinTail]
  | cons x r ih =>
    have hx : x.data.toList.length = x.size := Array.length_toList
    simp only [Lib.joinTail, List.map_cons, List.flatten_cons, List.length_append, List.length_cons, List.length_nil, List.sum_cons] at ih ⊢
    omega

theorem reach_step {Xs : List ByteArray} {i : Nat} {X : ByteArray} (h : Xs[i]? = some X) : reach Xs (i + 1) = reach Xs i + (if i = 0 then 0 else 1) + X.size := by
  cases Xs with
  | nil => simp at h
  | cons x r =>
    cases i with
    | zero => simp at h; subst h; simp [reach]
    | succ j =>
      simp at h
      simp only [reach]
      rw [show j + 1 + 1 - 1 = j + 1 by omega, show j + 1 - 1 = j by omega, List.take_add_one, h]
      simp
      omega

theorem glue_at {Xs : List ByteArray} {i : Nat} {X : ByteArray} (c : UInt8) (h : Xs[i]? = some X) :
    ∃ A R, (glue Xs c).data.toList = A ++ (if i = 0 then [] else [c]) ++ X.data.toList ++ R ∧ A.length = reach Xs i := by
  cases Xs with
  | nil => simp at h
  | cons x r =>
    cases i with
    | zero =>
      simp at h; subst h
      exact ⟨[], _, by simp only [glue, List.map_cons, Lib.join_cons]; simp; rfl, by simp [reach]⟩
    | succ j =>
      simp at h
      have hr : r = r.take j ++ X :: r.drop (j + 1) := by
        obtain ⟨hj, he⟩ := List.getElem?_eq_some_iff.1 h
        rw [← he, List.getElem_cons_drop, List.take_append_drop]
      refine ⟨x.data.toList ++ Lib.joinTail [c] ((r.take j).map (·.data.toList)), Lib.joinTail [c] ((r.drop (j + 1)).map (·.data.toList)), ?_, ?_⟩
      · simp only [glue, List.map_cons, Lib.join_cons]
        conv => lhs; rw [hr]
        simp [Lib.joinTail]
      · have hx : x.data.toList.length = x.size := Array.length_toList
        rw [List.length_append, tail_len, hx]
        simp [reach]

theorem glue_end (Xs : List ByteArray) (c : UInt8) : (glue Xs c).size = reach Xs Xs.length := by
  cases Xs with
  | nil => simp [glue_nil, reach]; rfl
  | cons x r =>
    have hx : x.data.toList.length = x.size := Array.length_toList
    have : (glue (x :: r) c).size = (glue (x :: r) c).data.toList.length := Array.length_toList.symm
    rw [this]
    simp only [glue, List.map_cons, Lib.join_cons]
    rw [List.length_append, tail_len, hx]
    simp [reach]
end Go.Proofs.Qxb6616617a.W
