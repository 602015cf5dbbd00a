/-
  HOW THE LAW's ARGUMENT LIES IN MEMORY: a struct of seven strings and nine lists.
-/
import Derived.Test.Qxb6616617aBase
namespace Go.Proofs.Qxb6616617a.W
open Go.ChangeShapes Go.WideShapes Go.ChangeAt Go.RowKit
set_option linter.unusedVariables false

/-- Where a list of n elements begins. -/
def Head (w : World) (v : Value) (n b o : Nat) : Prop := ∃ (a : Option Addr) (c : Nat), v = .slice a n c ∧ (0 < n → a = some ⟨b, o, none⟩ ∧ b < w.heap.size) ∧ (a = none → n = 0 ∧ c = 0)

/-- v IS A SLICE OF STRUCTS OF TWO STRINGS. -/
def Pairs (w : World) (v : Value) (Ps : List (ByteArray × ByteArray)) : Prop :=
  ∃ b o, Head w v Ps.length b o ∧ ∀ (j : Nat) x, Ps[j]? = some x → w.cell? ⟨b, o + j * 2, none⟩ = some (.string x.1) ∧ w.cell? ⟨b, o + j * 2 + 1, none⟩ = some (.string x.2)

/-- .. of three strings. -/
def Trips (w : World) (v : Value) (Ps : List (ByteArray × ByteArray × ByteArray)) : Prop :=
  ∃ b o, Head w v Ps.length b o ∧ ∀ (j : Nat) x, Ps[j]? = some x → w.cell? ⟨b, o + j * 3, none⟩ = some (.string x.1) ∧ w.cell? ⟨b, o + j * 3 + 1, none⟩ = some (.string x.2.1) ∧ w.cell? ⟨b, o + j * 3 + 2, none⟩ = some (.string x.2.2)

/-- v IS A SLICE OF STRINGS. -/
def Texts (w : World) (v : Value) (Xs : List ByteArray) : Prop :=
  ∃ b o, Head w v Xs.length b o ∧ ∀ (j : Nat) X, Xs[j]? = some X → w.cell? ⟨b, o + j, none⟩ = some (.string X)

theorem Texts.strs {w : World} {v : Value} {Xs : List ByteArray} (h : Texts w v Xs) : Strs w v Xs := by
  obtain ⟨b, o, ⟨a, c, hv, ha, _⟩, hc⟩ := h
  exact ⟨a, b, o, c, hv, ha, hc⟩

/-- An install: a name, and a range or none. -/
structure Inst where
  id : ByteArray
  some' : Bool
  rb : Nat
  ro : Nat
  mn : ByteArray
  mnx : Bool
  mx : ByteArray
  mxx : Bool

def Inst.ptr (x : Inst) : Value := if x.some' then .pointer (some ⟨x.rb, x.ro, none⟩) else .pointer none

def Insts (w : World) (v : Value) (Ps : List Inst) : Prop :=
  ∃ b o, Head w v Ps.length b o ∧ ∀ (j : Nat) x, Ps[j]? = some x → w.cell? ⟨b, o + j * 2, none⟩ = some (.string x.id) ∧ w.cell? ⟨b, o + j * 2 + 1, none⟩ = some x.ptr ∧
    (x.some' = true → x.rb < w.heap.size ∧ w.cell? ⟨x.rb, x.ro, none⟩ = some (.string x.mn) ∧ w.cell? ⟨x.rb, x.ro + 1, none⟩ = some (.bool x.mnx) ∧ w.cell? ⟨x.rb, x.ro + 2, none⟩ = some (.string x.mx) ∧ w.cell? ⟨x.rb, x.ro + 3, none⟩ = some (.bool x.mxx))

/-- A file. -/
structure Fl where
  path : ByteArray
  source : ByteArray
  ca : Option Addr
  cn : Nat
  cc : Nat
  av : Value
  assets : List ByteArray
  addr : Bool

def Fils (w : World) (v : Value) (Ps : List Fl) : Prop :=
  ∃ b o, Head w v Ps.length b o ∧ ∀ (j : Nat) x, Ps[j]? = some x → w.cell? ⟨b, o + j * 5, none⟩ = some (.string x.path) ∧ w.cell? ⟨b, o + j * 5 + 1, none⟩ = some (.string x.source) ∧ w.cell? ⟨b, o + j * 5 + 2, none⟩ = some (.slice x.ca x.cn x.cc) ∧
    w.cell? ⟨b, o + j * 5 + 3, none⟩ = some x.av ∧ w.cell? ⟨b, o + j * 5 + 4, none⟩ = some (.bool x.addr) ∧ Texts w x.av x.assets

/-- THE ARGUMENT. -/
structure E where
  s0 : ByteArray
  s1 : ByteArray
  s2 : ByteArray
  s3 : ByteArray
  s4 : ByteArray
  s5 : ByteArray
  s6 : ByteArray
  v7 : Value
  v8 : Value
  v9 : Value
  v10 : Value
  v11 : Value
  v12 : Value
  v13 : Value
  v14 : Value
  v15 : Value
  T : List ByteArray
  G : List ByteArray
  C : List ByteArray
  M : List ByteArray
  P : List (ByteArray × ByteArray)
  Tg : List (ByteArray × ByteArray)
  B : List (ByteArray × ByteArray × ByteArray)
  I : List Inst
  F : List Fl

def E.cells (e : E) : Array Value := #[.string e.s0, .string e.s1, .string e.s2, .string e.s3, .string e.s4, .string e.s5, .string e.s6, e.v7, e.v8, e.v9, e.v10, e.v11, e.v12, e.v13, e.v14, e.v15]

/-- It lies so in w. -/
structure E.Lies (e : E) (w : World) : Prop where
  T : Texts w e.v7 e.T
  G : Texts w e.v8 e.G
  P : Pairs w e.v9 e.P
  B : Trips w e.v10 e.B
  C : Texts w e.v11 e.C
  Tg : Pairs w e.v12 e.Tg
  I : Insts w e.v13 e.I
  M : Texts w e.v14 e.M
  F : Fils w e.v15 e.F

/-- Every length is one. -/
structure E.Wf (e : E) : Prop where
  s0 : e.s0.size ≤ maxLen
  s1 : e.s1.size ≤ maxLen
  s2 : e.s2.size ≤ maxLen
  s3 : e.s3.size ≤ maxLen
  s4 : e.s4.size ≤ maxLen
  s5 : e.s5.size ≤ maxLen
  s6 : e.s6.size ≤ maxLen
  T : e.T.length ≤ maxLen ∧ ∀ X ∈ e.T, X.size ≤ maxLen
  G : e.G.length ≤ maxLen ∧ ∀ X ∈ e.G, X.size ≤ maxLen
  C : e.C.length ≤ maxLen ∧ ∀ X ∈ e.C, X.size ≤ maxLen
  M : e.M.length ≤ maxLen ∧ ∀ X ∈ e.M, X.size ≤ maxLen
  P : e.P.length ≤ maxLen ∧ ∀ x ∈ e.P, x.1.size ≤ maxLen ∧ x.2.size ≤ maxLen
  Tg : e.Tg.length ≤ maxLen ∧ ∀ x ∈ e.Tg, x.1.size ≤ maxLen ∧ x.2.size ≤ maxLen
  B : e.B.length ≤ maxLen ∧ ∀ x ∈ e.B, x.1.size ≤ maxLen ∧ x.2.1.size ≤ maxLen ∧ x.2.2.size ≤ maxLen
  I : e.I.length ≤ maxLen ∧ ∀ x ∈ e.I, x.id.size ≤ maxLen ∧ (x.some' = true → x.mn.size ≤ maxLen ∧ x.mx.size ≤ maxLen)
  F : e.F.length ≤ maxLen ∧ ∀ x ∈ e.F, x.path.size ≤ maxLen ∧ x.source.size ≤ maxLen ∧ x.cn ≤ maxLen ∧ x.assets.length ≤ maxLen ∧ ∀ X ∈ x.assets, X.size ≤ maxLen

/-- What the look at the lengths finds where it says yes. -/
structure E.Small (e : E) : Prop where
  T : e.T.length ≤ 1048576 ∧ ∀ X ∈ e.T, X.size ≤ 1048576
  G : e.G.length ≤ 1048576 ∧ ∀ X ∈ e.G, X.size ≤ 1048576
  C : e.C.length ≤ 1048576 ∧ ∀ X ∈ e.C, X.size ≤ 1048576
  P : e.P.length ≤ 1048576
  Tg : e.Tg.length ≤ 1048576
  B : e.B.length ≤ 1048576
  I : e.I.length ≤ 1048576
  F : e.F.length ≤ 1048576 ∧ ∀ x ∈ e.F, x.assets.length ≤ 1048576

/-! ### what lies stays as it is while nothing old is turned -/
theorem Head.below {w w' : World} {v : Value} {n b o : Nat} (h : Head w v n b o) (hb : Below w.heap.size w w') : Head w' v n b o := by
  obtain ⟨a, c, h1, h2, h3⟩ := h
  exact ⟨a, c, h1, fun h => ⟨(h2 h).1, Nat.lt_of_lt_of_le (h2 h).2 hb.size⟩, h3⟩

theorem Head.lt {w : World} {v : Value} {n b o : Nat} (h : Head w v n b o) {j : Nat} (hj : j < n) : b < w.heap.size := by
  obtain ⟨a, c, h1, h2, h3⟩ := h
  exact (h2 (by omega)).2

theorem len_of {α : Type} {l : List α} {j : Nat} {x : α} (h : l[j]? = some x) : j < l.length := (List.getElem?_eq_some_iff.1 h).1

theorem Texts.below {w w' : World} {v : Value} {Xs : List ByteArray} (h : Texts w v Xs) (hb : Below w.heap.size w w') : Texts w' v Xs := by
  obtain ⟨b, o, hh, hc⟩ := h
  refine ⟨b, o, hh.below hb, fun j X hX => ?_⟩
  rw [hb.cell (p := ⟨b, o + j, none⟩) (hh.lt (len_of hX))]
  exact hc j X hX
theorem Pairs.below {w w' : World} {v : Value} {Xs : List (ByteArray × ByteArray)} (h : Pairs w v Xs) (hb : Below w.heap.size w w') : Pairs w' v Xs := by
  obtain ⟨b, o, hh, hc⟩ := h
  refine ⟨b, o, hh.below hb, fun j X hX => ?_⟩
  rw [hb.cell (p := ⟨b, o + j * 2, none⟩) (hh.lt (len_of hX)), hb.cell (p := ⟨b, o + j * 2 + 1, none⟩) (hh.lt (len_of hX))]
  exact hc j X hX
theorem Trips.below {w w' : World} {v : Value} {Xs : List (ByteArray × ByteArray × ByteArray)} (h : Trips w v Xs) (hb : Below w.heap.size w w') : Trips w' v Xs := by
  obtain ⟨b, o, hh, hc⟩ := h
  refine ⟨b, o, hh.below hb, fun j X hX => ?_⟩
  rw [hb.cell (p := ⟨b, o + j * 3, none⟩) (hh.lt (len_of hX)), hb.cell (p := ⟨b, o + j * 3 + 1, none⟩) (hh.lt (len_of hX)), hb.cell (p := ⟨b, o + j * 3 + 2, none⟩) (hh.lt (len_of hX))]
  exact hc j X hX
theorem Insts.below {w w' : World} {v : Value} {Xs : List Inst} (h : Insts w v Xs) (hb : Below w.heap.size w w') : Insts w' v Xs := by
  obtain ⟨b, o, hh, hc⟩ := h
  refine ⟨b, o, hh.below hb, fun j X hX => ?_⟩
  obtain ⟨h1, h2, h3⟩ := hc j X hX
  rw [hb.cell (p := ⟨b, o + j * 2, none⟩) (hh.lt (len_of hX)), hb.cell (p := ⟨b, o + j * 2 + 1, none⟩) (hh.lt (len_of hX))]
  refine ⟨h1, h2, fun hs => ?_⟩
  obtain ⟨hl, c0, c1, c2, c3⟩ := h3 hs
  refine ⟨Nat.lt_of_lt_of_le hl hb.size, ?_, ?_, ?_, ?_⟩
  · rw [hb.cell (p := ⟨X.rb, X.ro, none⟩) hl]; exact c0
  · rw [hb.cell (p := ⟨X.rb, X.ro + 1, none⟩) hl]; exact c1
  · rw [hb.cell (p := ⟨X.rb, X.ro + 2, none⟩) hl]; exact c2
  · rw [hb.cell (p := ⟨X.rb, X.ro + 3, none⟩) hl]; exact c3
theorem Fils.below {w w' : World} {v : Value} {Xs : List Fl} (h : Fils w v Xs) (hb : Below w.heap.size w w') : Fils w' v Xs := by
  obtain ⟨b, o, hh, hc⟩ := h
  refine ⟨b, o, hh.below hb, fun j X hX => ?_⟩
  obtain ⟨h0, h1, h2, h3, h4, h5⟩ := hc j X hX
  rw [hb.cell (p := ⟨b, o + j * 5, none⟩) (hh.lt (len_of hX)), hb.cell (p := ⟨b, o + j * 5 + 1, none⟩) (hh.lt (len_of hX)), hb.cell (p := ⟨b, o + j * 5 + 2, none⟩) (hh.lt (len_of hX)), hb.cell (p := ⟨b, o + j * 5 + 3, none⟩) (hh.lt (len_of hX)), hb.cell (p := ⟨b, o + j * 5 + 4, none⟩) (hh.lt (len_of hX))]
  exact ⟨h0, h1, h2, h3, h4, h5.below hb⟩
theorem E.Lies.below {e : E} {w w' : World} (h : e.Lies w) (hb : Below w.heap.size w w') : e.Lies w' :=
  ⟨h.T.below hb, h.G.below hb, h.P.below hb, h.B.below hb, h.C.below hb, h.Tg.below hb, h.I.below hb, h.M.below hb, h.F.below hb⟩

/-! ### the first k strings are short -/
def Short (Xs : List ByteArray) (k : Nat) : Prop := ∀ (j : Nat) X, j < k → Xs[j]? = some X → X.size ≤ 1048576
theorem Short.zero (Xs : List ByteArray) : Short Xs 0 := fun j X h => absurd h (by omega)
theorem Short.succ {Xs : List ByteArray} {k : Nat} (h : Short Xs k) {X : ByteArray} (hX : Xs[k]? = some X) (hs : X.size ≤ 1048576) : Short Xs (k + 1) := fun j Y hj hY => by
  by_cases e : j = k
  · subst e
    rw [hX] at hY
    cases hY
    exact hs
  · exact h j Y (by omega) hY
theorem Short.all {Xs : List ByteArray} {k : Nat} (h : Short Xs k) (hk : Xs.length ≤ k) : ∀ X ∈ Xs, X.size ≤ 1048576 := fun X hX => by
  obtain ⟨j, hj, e⟩ := List.getElem_of_mem hX
  exact h j X (by omega) (by rw [List.getElem?_eq_getElem hj, e])
def ShortF (Xs : List Fl) (k : Nat) : Prop := ∀ (j : Nat) X, j < k → Xs[j]? = some X → X.assets.length ≤ 1048576
theorem ShortF.zero (Xs : List Fl) : ShortF Xs 0 := fun j X h => absurd h (by omega)
theorem ShortF.succ {Xs : List Fl} {k : Nat} (h : ShortF Xs k) {X : Fl} (hX : Xs[k]? = some X) (hs : X.assets.length ≤ 1048576) : ShortF Xs (k + 1) := fun j Y hj hY => by
  by_cases e : j = k
  · subst e
    rw [hX] at hY
    cases hY
    exact hs
  · exact h j Y (by omega) hY
theorem ShortF.all {Xs : List Fl} {k : Nat} (h : ShortF Xs k) (hk : Xs.length ≤ k) : ∀ X ∈ Xs, X.assets.length ≤ 1048576 := fun X hX => by
  obtain ⟨j, hj, e⟩ := List.getElem_of_mem hX
  exact h j X (by omega) (by rw [List.getElem?_eq_getElem hj, e])

/-- What the look at the lengths tells. -/
def Told (e : E) (x : Ending) : Prop := ∃ b, x = .returned (.bool b) ∧ (b = true → e.Small)
theorem Told.no (e : E) : Told e (.returned (.bool false)) := ⟨_, rfl, by simp⟩
theorem Told.yes {e : E} (h : e.Small) : Told e (.returned (.bool true)) := ⟨_, rfl, fun _ => h⟩
end Go.Proofs.Qxb6616617a.W
