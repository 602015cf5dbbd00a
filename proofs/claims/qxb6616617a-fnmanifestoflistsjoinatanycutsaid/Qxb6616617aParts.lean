/-
  A manifest's Properties and Badges, nil or not, as the second law's comparisons want them.
-/
import Derived.Test.Qxb6616617aHalf
import Derived.Test.Qxb6616617aSmall8
namespace Go.Proofs.Qxb6616617a.W
open Go.ChangeShapes Go.WideShapes Go.ChangeAt Go.RowKit
set_option linter.unusedVariables false

theorem Props.parts {lo : Nat} {w : World} {pq : Option Addr} {Ps : List (ByteArray × ByteArray)} {L : Nat} (h : Props lo w (.pointer pq) Ps) (hl : Ps.length = L) :
    (L = 0 ∧ pq = none) ∨ (¬ (L : Int) = 0 ∧ ∃ b bb oo c, pq = some ⟨b, 0, none⟩ ∧ w.cell? ⟨b, 0, none⟩ = some (.slice (some ⟨bb, oo, none⟩) L c) ∧ Hid (∀ (j : Nat) x, Ps[j]? = some x → ElemPairs w bb oo j x)) := by
  subst hl
  by_cases h0 : Ps.length = 0
  · exact .inl ⟨h0, by have := h.1 h0; injection this⟩
  · obtain ⟨b, v, hp, _, _, hc, bb, oo, ⟨a, c, h1, h2, _⟩, _, h3⟩ := h.2 (by omega)
    obtain ⟨rfl, _⟩ := h2 (by omega)
    subst h1
    exact .inr ⟨by omega, b, bb, oo, c, by injection hp, hc, h3⟩
theorem Bads.parts {lo : Nat} {w : World} {pq : Option Addr} {Ps : List (ByteArray × ByteArray × ByteArray)} {L : Nat} (h : Bads lo w (.pointer pq) Ps) (hl : Ps.length = L) :
    (L = 0 ∧ pq = none) ∨ (¬ (L : Int) = 0 ∧ ∃ b bb oo c, pq = some ⟨b, 0, none⟩ ∧ w.cell? ⟨b, 0, none⟩ = some (.slice (some ⟨bb, oo, none⟩) L c) ∧ Hid (∀ (j : Nat) x, Ps[j]? = some x → ElemTrips w bb oo j x)) := by
  subst hl
  by_cases h0 : Ps.length = 0
  · exact .inl ⟨h0, by have := h.1 h0; injection this⟩
  · obtain ⟨b, v, hp, _, _, hc, bb, oo, ⟨a, c, h1, h2, _⟩, _, h3⟩ := h.2 (by omega)
    obtain ⟨rfl, _⟩ := h2 (by omega)
    subst h1
    exact .inr ⟨by omega, b, bb, oo, c, by injection hp, hc, h3⟩

/-- vsixB1JoinOf at the halves of a list. -/
theorem joins (Xs : List ByteArray) (c : UInt8) (k L : Nat) (hL : Xs.length = L) (hk : k ≤ L) {g1 g2 g3 : ByteArray} (h1 : glue Xs c = g1) (h2 : glue (Xs.take k) c = g2) (h3 : glue (Xs.drop k) c = g3) : joinOf g2 g3 k (L - k) ⟨#[c]⟩ = g1 := by
  subst h1 h2 h3 hL
  exact (glue_cut Xs c k hk).symm
end Go.Proofs.Qxb6616617a.W
