/-
  Rows of words; the map's stores.
-/
import Derived.Test.Qxb6618638aDoorExts
import Derived.Maps.AppendAt
namespace Go.Proofs.Qxb6618638aDoor.W
open Go.ChangeShapes Go.WideShapes Go.ChangeAt Go.RowKit Go.Maps
set_option linter.unusedVariables false

def mkB (l : List UInt8) : ByteArray := ⟨l.toArray⟩
theorem encS_mkB (l : List UInt8) : encS l = .string (mkB l) := rfl

/-- The words of S. -/
def words (S : ByteArray) : List (List UInt8) := Lib.fieldsD S.data.toList

theorem go_len (f : Nat) : ∀ (cur l : List UInt8), (Lib.fieldsGoU f cur l).length ≤ l.length + 1 := by
  induction f with
  | zero => intro cur l; simp only [Lib.fieldsGoU]; split <;> simp
  | succ f ih =>
    intro cur l
    match l with
    | [] => rw [Lib.fieldsGoU_nil]; split <;> simp
    | b :: t =>
      simp only [Lib.fieldsGoU]
      split
      · have := ih (cur ++ [b]) t
        simp only [List.length_cons]
        omega
      · rename_i h0
        have := ih [] ((b :: t).drop (Lib.headSpace (b :: t)))
        have h1 : ((b :: t).drop (Lib.headSpace (b :: t))).length ≤ t.length := by simp; omega
        have h2 : (if cur = [] then ([] : List (List UInt8)) else [cur]).length ≤ 1 := by split <;> simp
        simp only [List.length_append, List.length_cons]
        omega
theorem words_len (S : ByteArray) : (words S).length ≤ S.size + 1 := by
  unfold words
  rw [← Lib.fieldsU_eq]
  have := go_len (S.data.toList.length + 1) [] S.data.toList
  exact Nat.le_trans this (by simp)

theorem grown_of_below {w w' : World} (h : Below w.heap.size w w') (row : Option Nat) : w.grownBy w' row := ⟨h.os, h.tape, h.output, h.size, fun k hk _ => h.block k hk⟩
theorem grown_drewN (w : World) (n : Nat) (row : Option Nat) : w.grownBy (w.drewN n) row := ⟨rfl, rfl, rfl, Nat.le_refl _, fun _ _ _ => rfl⟩

theorem add_zero_block (g j : Nat) : (⟨g, 0, none⟩ : Addr).add j = ⟨g, j, none⟩ := by
  unfold Addr.add
  by_cases h : j = 0
  · simp [h]
  · simp [h]

/-- A ROW OF WORDS: a slice of the call's own, behind block M, that holds ls. -/
def Row (M : Nat) (w : World) (v : Value) (ls : List (List UInt8)) : Prop := w.ownsRow (M + 1) 9 1 v ls.length (ls.map encS)

theorem Row.of {M base : Nat} {w : World} {v : Value} {ls : List (List UInt8)} (h : w.ownsRow base 9 1 v ls.length (ls.map encS)) (hb : M < base) : Row M w v ls := by
  obtain ⟨h1, h2⟩ := h
  refine ⟨h1, ?_⟩
  rcases h2 with h2 | ⟨g, cap, cur, a, b, c⟩
  · exact .inl h2
  · exact .inr ⟨g, cap, cur, a, by omega, c⟩

theorem Row.kept {M : Nat} {w w' : World} {v : Value} {ls : List (List UInt8)} (h : Row M w v ls) (hg : w.grownBy w' (some M)) : Row M w' v ls := by
  refine World.ownsRow.kept h hg ?_
  cases hv : v.ownBlock with
  | none => exact Or.inl rfl
  | some k =>
    right
    intro e
    have := (World.ownsRow.lt h k hv).1
    cases e
    omega

theorem Row.strs {M : Nat} {w : World} {v : Value} {ls : List (List UInt8)} (h : Row M w v ls) : Strs w v (ls.map mkB) := by
  have h' := h
  obtain ⟨h1, h2⟩ := h
  rcases h2 with ⟨rfl, h2⟩ | ⟨g, cap, cur, rfl, hb, hh, hc⟩
  · have : ls = [] := List.eq_nil_of_length_eq_zero h2
    subst this
    exact ⟨none, 0, 0, 0, rfl, fun h => absurd h (by simp), fun j X h => by simp at h⟩
  · refine ⟨some ⟨g, 0, none⟩, g, 0, cap, by simp, fun _ => ⟨rfl, ?_⟩, fun j X hX => ?_⟩
    · exact (World.ownsRow.lt h' g rfl).2
    · have := World.ownsRow.cells h' (g := g) rfl j (.string X) (by
        rw [List.getElem?_map] at hX ⊢
        obtain ⟨l, hl, rfl⟩ := Option.map_eq_some_iff.1 hX
        rw [hl]; rfl)
      rw [add_zero_block] at this
      simpa using this

/-- 'm[name] = v'. -/
theorem put {w : World} {B n : Nat} {D : MD} (h : w.ownsMap Tryd.prog 9 (plainElem Tryd.prog 9) B n D) (hn : n ≤ 1000000) (V : ByteArray) (hV : V.size ≤ 4000000) :
    ∃ w1, (Instr.mapUpdate 25 (.map (some B)) (.string { data := #[101, 120, 116, 115, 95, 108, 105, 115, 116] }) (.string V)).run Tryd.prog w = .ok () w1 ∧ w1.ownsMap Tryd.prog 9 (plainElem Tryd.prog 9) B (n + 1) (D.put nameK (.lit (.string V.data.toList))) ∧ w.grownBy w1 (some B) := by
  obtain ⟨w1, h1, h2, h3⟩ := World.ownsMap.store (t := 25) (e := 9) h law Tryd.underlying25 (by unfold maxLen; omega) nameKey (plainElem_string Tryd.underlying9 (s := V) (by unfold maxLen; omega))
  exact ⟨w1, h1, h2, h3.grown⟩

theorem at_put {D : MD} (hD : IsMap D) (V : ByteArray) : (D.put nameK (.lit (.string V.data.toList))).atKey nameK (.lit (.string [])) = .lit (.string V.data.toList) := atKey_put_same hD (by trivial) _ _
theorem has_put {D : MD} (hD : IsMap D) (V : ByteArray) : Maps.has (D.put nameK (.lit (.string V.data.toList))) nameK = true := has_put_same hD (by trivial) _

end Go.Proofs.Qxb6618638aDoor.W
