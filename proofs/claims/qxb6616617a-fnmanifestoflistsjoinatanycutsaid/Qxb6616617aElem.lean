/-
  For vsixB1ToExtension: elements of lists, the row laws, what it hands back.
-/
import Derived.Test.Qxb6616617aCopy
import Derived.Deep.Light
import Derived.Deep.RegionHeld3
import Derived.Deep.Cut
import Derived.Deep.CutRange
import Derived.Laws.Cover3
import Derived.Deep.MidRow
namespace Go.Proofs.Qxb6616617a.W
open Go.ChangeShapes Go.WideShapes Go.ChangeAt Go.RowKit
set_option linter.unusedVariables false

theorem info_ex {e : TypeId} {size bytes : Nat} (h : (Try.prog.info? e).map (fun i => (i.zero.isSome, i.size, i.bytes)) = some (true, size, bytes)) : ∃ i z, Try.prog.info? e = some i ∧ i.zero = some z ∧ i.size = size ∧ i.bytes = bytes := by
  obtain ⟨i, hi, hx⟩ := Option.map_eq_some_iff.1 h
  simp only [Prod.mk.injEq] at hx
  obtain ⟨z, hz⟩ := Option.isSome_iff_exists.1 hx.1
  exact ⟨i, z, hi, hz, hx.2.1, hx.2.2⟩

theorem Row.over {w : World} {H n : Nat} {tgt : Nat → Option Value} {k : Nat} (h : Row w H n tgt k) {j : Nat} (hk : k ≤ j) (u : Value) : Row (w.setCell ⟨H, j, none⟩ u) H n tgt k := by
  obtain ⟨h1, h2⟩ := h
  refine ⟨fun i hi => ⟨?_, ?_⟩, fun i hi => ?_⟩
  · by_cases e : i = j
    · subst e
      obtain ⟨v, hv⟩ := Option.isSome_iff_exists.1 (h1 i hi).1
      rw [World.cell?_setCell_same _ _ _ hv]; rfl
    · rw [World.cell?_setCell_other _ _ _ _ (by intro e'; injection e' with _ e2 _; exact e e2.symm)]; exact (h1 i hi).1
  · rw [World.frozen?_setCell]; exact (h1 i hi).2
  · rw [World.cell?_setCell_other _ _ _ _ (by intro e'; injection e' with _ e2 _; omega)]; exact h2 i hi

theorem Row.newer {w : World} {H n : Nat} {tgt : Nat → Option Value} {k : Nat} (h : Row w H n tgt k) (o : Obj) (hH : H < w.heap.size) : Row (w.alloc o) H n tgt k :=
  h.kept (B := w.heap.size) ((Below.refl _ _).alloc (Nat.le_refl _) _) hH

def ElemPairs (w : World) (b o j : Nat) (x : ByteArray × ByteArray) : Prop := w.cell? ⟨b, o + j * 2, none⟩ = some (.string x.1) ∧ w.cell? ⟨b, o + j * 2 + 1, none⟩ = some (.string x.2)
theorem ElemPairs.below {w w' : World} {b o j : Nat} {x : ByteArray × ByteArray} (h : ElemPairs w b o j x) (hb : Below w.heap.size w w') (hl : b < w.heap.size) : ElemPairs w' b o j x := by
  unfold ElemPairs at h ⊢
  rw [hb.cell (p := ⟨b, o + j * 2, none⟩) hl, hb.cell (p := ⟨b, o + j * 2 + 1, none⟩) hl]
  exact h
def ElemTrips (w : World) (b o j : Nat) (x : ByteArray × ByteArray × ByteArray) : Prop := w.cell? ⟨b, o + j * 3, none⟩ = some (.string x.1) ∧ w.cell? ⟨b, o + j * 3 + 1, none⟩ = some (.string x.2.1) ∧ w.cell? ⟨b, o + j * 3 + 2, none⟩ = some (.string x.2.2)
theorem ElemTrips.below {w w' : World} {b o j : Nat} {x : ByteArray × ByteArray × ByteArray} (h : ElemTrips w b o j x) (hb : Below w.heap.size w w') (hl : b < w.heap.size) : ElemTrips w' b o j x := by
  unfold ElemTrips at h ⊢
  rw [hb.cell (p := ⟨b, o + j * 3, none⟩) hl, hb.cell (p := ⟨b, o + j * 3 + 1, none⟩) hl, hb.cell (p := ⟨b, o + j * 3 + 2, none⟩) hl]
  exact h
def ElemInsts (w : World) (b o j : Nat) (x : Inst) : Prop := w.cell? ⟨b, o + j * 2, none⟩ = some (.string x.id) ∧ w.cell? ⟨b, o + j * 2 + 1, none⟩ = some x.ptr ∧
    (x.some' = true → x.rb < w.heap.size ∧ w.cell? ⟨x.rb, x.ro, none⟩ = some (.string x.mn) ∧ w.cell? ⟨x.rb, x.ro + 1, none⟩ = some (.bool x.mnx) ∧ w.cell? ⟨x.rb, x.ro + 2, none⟩ = some (.string x.mx) ∧ w.cell? ⟨x.rb, x.ro + 3, none⟩ = some (.bool x.mxx))
/-- .. with the range's block said of the world at the start. -/
def ElemInsts' (w w' : World) (b o j : Nat) (x : Inst) : Prop := w'.cell? ⟨b, o + j * 2, none⟩ = some (.string x.id) ∧ w'.cell? ⟨b, o + j * 2 + 1, none⟩ = some x.ptr ∧
    (x.some' = true → x.rb < w.heap.size ∧ w'.cell? ⟨x.rb, x.ro, none⟩ = some (.string x.mn) ∧ w'.cell? ⟨x.rb, x.ro + 1, none⟩ = some (.bool x.mnx) ∧ w'.cell? ⟨x.rb, x.ro + 2, none⟩ = some (.string x.mx) ∧ w'.cell? ⟨x.rb, x.ro + 3, none⟩ = some (.bool x.mxx))
theorem ElemInsts.below {w w' : World} {b o j : Nat} {x : Inst} (h : ElemInsts w b o j x) (hb : Below w.heap.size w w') (hl : b < w.heap.size) : ElemInsts' w w' b o j x := by
  obtain ⟨h1, h2, h3⟩ := h
  refine ⟨?_, ?_, fun hs => ?_⟩
  · rw [hb.cell (p := ⟨b, o + j * 2, none⟩) hl]; exact h1
  · rw [hb.cell (p := ⟨b, o + j * 2 + 1, none⟩) hl]; exact h2
  · obtain ⟨hr, c0, c1, c2, c3⟩ := h3 hs
    refine ⟨hr, ?_, ?_, ?_, ?_⟩
    · rw [hb.cell (p := ⟨x.rb, x.ro, none⟩) hr]; exact c0
    · rw [hb.cell (p := ⟨x.rb, x.ro + 1, none⟩) hr]; exact c1
    · rw [hb.cell (p := ⟨x.rb, x.ro + 2, none⟩) hr]; exact c2
    · rw [hb.cell (p := ⟨x.rb, x.ro + 3, none⟩) hr]; exact c3
def ElemFils (w : World) (b o j : Nat) (x : Fl) : Prop := w.cell? ⟨b, o + j * 5, none⟩ = some (.string x.path) ∧ w.cell? ⟨b, o + j * 5 + 1, none⟩ = some (.string x.source) ∧ w.cell? ⟨b, o + j * 5 + 2, none⟩ = some (.slice x.ca x.cn x.cc) ∧
    w.cell? ⟨b, o + j * 5 + 3, none⟩ = some x.av ∧ w.cell? ⟨b, o + j * 5 + 4, none⟩ = some (.bool x.addr)
theorem ElemFils.below {w w' : World} {b o j : Nat} {x : Fl} (h : ElemFils w b o j x) (hb : Below w.heap.size w w') (hl : b < w.heap.size) : ElemFils w' b o j x := by
  unfold ElemFils at h ⊢
  rw [hb.cell (p := ⟨b, o + j * 5, none⟩) hl, hb.cell (p := ⟨b, o + j * 5 + 1, none⟩) hl, hb.cell (p := ⟨b, o + j * 5 + 2, none⟩) hl, hb.cell (p := ⟨b, o + j * 5 + 3, none⟩) hl, hb.cell (p := ⟨b, o + j * 5 + 4, none⟩) hl]
  exact h
theorem Fils.elem {w : World} {v : Value} {Ps : List Fl} (h : Fils w v Ps) {j : Nat} {x : Fl} (hx : Ps[j]? = some x) : True ∧ Texts w x.av x.assets := by
  obtain ⟨b, o, _, hc⟩ := h
  exact ⟨trivial, (hc j x hx).2.2.2.2.2⟩

theorem FilsA.above {lo : Nat} {w w' : World} {v : Value} {Ps : List Fl} (h : FilsA lo w v Ps) (ha : Above lo w w') : FilsA lo w' v Ps := by
  obtain ⟨b, o, hh, hl, hc⟩ := h
  refine ⟨b, o, hh.above ha.size, hl, fun j X hX => ?_⟩
  have hj := len_of hX
  have c := fun i => ha.cell b i (hl (by omega)) (hh.lt hj)
  rw [c, c, c, c, c]
  exact hc j X hX
theorem FilsA.any {lo : Nat} {w : World} {v : Value} {Ps : List Fl} (h : FilsA lo w v Ps) : FilsA 0 w v Ps := by
  obtain ⟨b, o, hh, hl, hc⟩ := h
  exact ⟨b, o, hh, fun _ => Nat.zero_le _, hc⟩
theorem below_sets {B : Nat} {a w : World} (h : Below B a w) {b : Nat} (hb : B ≤ b) : ∀ (vs : List Value) (o : Nat), Below B a (w.setCells b o vs) := by
  intro vs
  induction vs generalizing w with
  | nil => intro o; exact h
  | cons v r ih => intro o; exact ih (h.setCell (p := ⟨b, o, none⟩) hb v) (o + 1)
theorem size_sets (w : World) (b : Nat) : ∀ (vs : List Value) (o : Nat), (w.setCells b o vs).heap.size = w.heap.size := by
  intro vs
  induction vs generalizing w with
  | nil => intro o; rfl
  | cons v r ih =>
    intro o
    show ((w.setCell ⟨b, o, none⟩ v).setCells b (o + 1) r).heap.size = _
    rw [ih]
    simp [World.setCell]
theorem Above.sets {lo : Nat} (w : World) {b : Nat} (h : b < lo) (o : Nat) (vs : List Value) : Above lo w (w.setCells b o vs) :=
  ⟨by rw [size_sets]; exact Nat.le_refl _, fun x i h1 h2 => World.cell?_setCells_out b vs o w ⟨x, i, none⟩ (fun e _ => by have : x = b := e; omega)⟩

theorem res22 (a : Act) (w : World) (b : Nat) (arr : Array Value) (h2 : a.tmps[2]? = some (.pointer (some ⟨b, 0, none⟩))) (hl : (loadVar 80 ⟨b, 0, none⟩).run Try.prog w = .ok (.agg arr) w) : (results Try.f22 a.tmps).run Try.prog w = .ok (.agg arr) w := by
  have hr : Try.f22.results = #[.cell 2 80] := by kernel_rfl
  simp only [results, hr]
  simp [h2, asAddr, hl]

/-- WHAT vsixB1ToExtension HANDS BACK: the same strings and lists of strings, and copies of the other lists. -/
def Copied (e : E) (w : World) (x : Ending) (w' : World) : Prop :=
  ∃ vP vB vT vI vF : Value, x = .returned (.agg #[.string e.s0, .string e.s1, .string e.s2, .string e.s3, .string e.s4, .string e.s5, .string e.s6, e.v7, e.v8, vP, vB, e.v11, vT, vI, e.v14, vF]) ∧
    Pairs w' vP e.P ∧ Trips w' vB e.B ∧ Pairs w' vT e.Tg ∧ (∃ a n c, vI = .slice a n c) ∧ FilsA 0 w' vF e.F ∧ Below w.heap.size w w'

end Go.Proofs.Qxb6616617a.W
