/-
  The manifest in memory while manifestOf makes it, and when it is made.
-/
import Derived.Test.Qxb6616617aCopy
import Derived.Test.Qxb6616617aJoin
import Derived.Deep.AppendLies
namespace Go.Proofs.Qxb6616617a.W
open Go.ChangeShapes Go.WideShapes Go.ChangeAt Go.RowKit
set_option linter.unusedVariables false

/-! ### lists as rows of cells -/
theorem flat_get {α : Type} (f : α → List Value) (m : Nat) (hf : ∀ x, (f x).length = m) : ∀ (L : List α) (k : Nat) (x : α) (i : Nat), L[k]? = some x → i < m → (L.flatMap f)[k * m + i]? = (f x)[i]? := by
  intro L
  induction L with
  | nil => intro k x i h; simp at h
  | cons y r ih =>
    intro k x i h hi
    rw [List.flatMap_cons]
    cases k with
    | zero =>
      simp at h
      subst h
      rw [Nat.zero_mul, Nat.zero_add, List.getElem?_append_left (by rw [hf]; exact hi)]
    | succ k =>
      simp at h
      rw [List.getElem?_append_right (by rw [hf, Nat.succ_mul]; omega), hf, show (k + 1) * m + i - m = k * m + i by rw [Nat.succ_mul]; omega]
      exact ih k x i h hi

theorem flat_len {α : Type} (f : α → List Value) (m : Nat) (hf : ∀ x, (f x).length = m) (L : List α) : (L.flatMap f).length = L.length * m := by
  induction L with
  | nil => simp
  | cons y r ih => rw [List.flatMap_cons, List.length_append, ih, hf, List.length_cons, Nat.succ_mul]; omega

theorem flat_take {α : Type} (f : α → List Value) {L : List α} {k : Nat} {x : α} (h : L[k]? = some x) : (L.take (k + 1)).flatMap f = (L.take k).flatMap f ++ f x := by
  rw [List.take_add_one, h]
  simp

def row2 (x : ByteArray × ByteArray) : List Value := [.string x.1, .string x.2]
def row3 (x : ByteArray × ByteArray × ByteArray) : List Value := [.string x.1, .string x.2.1, .string x.2.2]
def rowA (x : ByteArray × ByteArray × Bool) : List Value := [.string x.1, .string x.2.1, .bool x.2.2]

/-- The assets of one file, of all. -/
def assetsOf (f : Fl) : List (ByteArray × ByteArray × Bool) := f.assets.map fun t => (t, f.path, f.addr)
def assetsAll (F : List Fl) : List (ByteArray × ByteArray × Bool) := F.flatMap assetsOf

/-- v IS A SLICE OF STRUCTS OF TWO STRINGS AND A BOOL. -/
def AstsA (lo : Nat) (w : World) (v : Value) (Ps : List (ByteArray × ByteArray × Bool)) : Prop :=
  ∃ b o, Head w v Ps.length b o ∧ (0 < Ps.length → lo ≤ b) ∧ ∀ (j : Nat) x, Ps[j]? = some x → w.cell? ⟨b, o + j * 3, none⟩ = some (.string x.1) ∧ w.cell? ⟨b, o + j * 3 + 1, none⟩ = some (.string x.2.1) ∧ w.cell? ⟨b, o + j * 3 + 2, none⟩ = some (.bool x.2.2)

theorem AstsA.above {lo : Nat} {w w' : World} {v : Value} {Ps : List (ByteArray × ByteArray × Bool)} (h : AstsA lo w v Ps) (ha : Above lo w w') : AstsA lo w' v Ps := by
  obtain ⟨b, o, hh, hl, hc⟩ := h
  refine ⟨b, o, hh.above ha.size, hl, fun j X hX => ?_⟩
  have hj := len_of hX
  rw [ha.cell b _ (hl (by omega)) (hh.lt hj), ha.cell b _ (hl (by omega)) (hh.lt hj), ha.cell b _ (hl (by omega)) (hh.lt hj)]
  exact hc j X hX

theorem own_head {w : World} {base : Nat} {e : TypeId} {size n : Nat} {v : Value} {xs : List Value} (h : w.ownsRow base e size v n xs) :
    ∃ g, Head w v n g 0 ∧ (0 < n → base ≤ g) ∧ ∀ j, j < n * size → w.cell? ⟨g, j, none⟩ = xs[j]? := by
  by_cases hn : 0 < n
  · obtain ⟨g, cap, rfl, hb, hg⟩ := h.form hn
    exact ⟨g, Head.own hg, fun _ => hb, fun j hj => h.cellAt j hj⟩
  · have e0 : n = 0 := by omega
    subst e0
    rcases h.2 with ⟨rfl, _⟩ | ⟨g, cap, cur, rfl, hb, hg, _⟩
    · exact ⟨0, Head.nil w, fun h => absurd h (by omega), fun j hj => by omega⟩
    · refine ⟨g, ⟨_, cap, rfl, fun h => absurd h (by omega), fun h => by cases h⟩, fun h => absurd h (by omega), fun j hj => by omega⟩

theorem PairsA.own {lo base : Nat} {e : TypeId} {w : World} {v : Value} {Ps : List (ByteArray × ByteArray)} (h : w.ownsRow base e 2 v Ps.length (Ps.flatMap row2)) (hlo : lo ≤ base) : PairsA lo w v Ps := by
  obtain ⟨g, hh, hb, hc⟩ := own_head h
  refine ⟨g, 0, hh, fun h => Nat.le_trans hlo (hb h), fun j x hx => ?_⟩
  have hj := len_of hx
  rw [Nat.zero_add, hc _ (by omega), hc _ (by omega), flat_get row2 2 (fun _ => rfl) Ps j x 1 hx (by omega)]
  have := flat_get row2 2 (fun _ => rfl) Ps j x 0 hx (by omega)
  rw [Nat.add_zero] at this
  rw [this]
  exact ⟨rfl, rfl⟩
theorem TripsA.own {lo base : Nat} {e : TypeId} {w : World} {v : Value} {Ps : List (ByteArray × ByteArray × ByteArray)} (h : w.ownsRow base e 3 v Ps.length (Ps.flatMap row3)) (hlo : lo ≤ base) : TripsA lo w v Ps := by
  obtain ⟨g, hh, hb, hc⟩ := own_head h
  refine ⟨g, 0, hh, fun h => Nat.le_trans hlo (hb h), fun j x hx => ?_⟩
  have hj := len_of hx
  rw [Nat.zero_add, hc _ (by omega), hc _ (by omega), hc _ (by omega), flat_get row3 3 (fun _ => rfl) Ps j x 1 hx (by omega), flat_get row3 3 (fun _ => rfl) Ps j x 2 hx (by omega)]
  have := flat_get row3 3 (fun _ => rfl) Ps j x 0 hx (by omega)
  rw [Nat.add_zero] at this
  rw [this]
  exact ⟨rfl, rfl, rfl⟩
theorem AstsA.own {lo base : Nat} {e : TypeId} {w : World} {v : Value} {Ps : List (ByteArray × ByteArray × Bool)} (h : w.ownsRow base e 3 v Ps.length (Ps.flatMap rowA)) (hlo : lo ≤ base) : AstsA lo w v Ps := by
  obtain ⟨g, hh, hb, hc⟩ := own_head h
  refine ⟨g, 0, hh, fun h => Nat.le_trans hlo (hb h), fun j x hx => ?_⟩
  have hj := len_of hx
  rw [Nat.zero_add, hc _ (by omega), hc _ (by omega), hc _ (by omega), flat_get rowA 3 (fun _ => rfl) Ps j x 1 hx (by omega), flat_get rowA 3 (fun _ => rfl) Ps j x 2 hx (by omega)]
  have := flat_get rowA 3 (fun _ => rfl) Ps j x 0 hx (by omega)
  rw [Nat.add_zero] at this
  rw [this]
  exact ⟨rfl, rfl, rfl⟩

/-! ### the manifest's own block -/
/-- w's own blocks stand; block H, made since, is the manifest. -/
structure MSt (w wr : World) (H : Nat) (cs : Array Value) : Prop where
  below : Below w.heap.size w wr
  lo : w.heap.size ≤ H
  lt : H < wr.heap.size
  own : wr.heap[H]? = some (.cells cs 97 (0, 0))

theorem MSt.made {w wr : World} (h : Below w.heap.size w wr) (cs : Array Value) : MSt w (wr.alloc (.cells cs 97)) wr.heap.size cs :=
  ⟨h.alloc h.size _, h.size, by simp, by
    show (wr.heap.push (.cells cs 97 (0, 0)))[wr.heap.size]? = _
    rw [Array.getElem?_push_size]⟩
theorem MSt.next {w wr wl : World} {H : Nat} {cs : Array Value} (h : MSt w wr H cs) (hb : Below wr.heap.size wr wl) : MSt w wl H cs := by
  have := h.lo
  have := h.lt
  exact ⟨h.below.trans (hb.mono (by omega)), h.lo, Nat.lt_of_lt_of_le h.lt hb.size, (hb.block _ h.lt).trans h.own⟩
theorem MSt.set {w wr : World} {H : Nat} {cs : Array Value} (h : MSt w wr H cs) (i : Nat) (v : Value) : MSt w (wr.setCell ⟨H, i, none⟩ v) H (cs.setIfInBounds i v) := by
  refine ⟨h.below.setCell (by exact h.lo) v, h.lo, by have := h.lt; simpa [World.setCell] using this, ?_⟩
  simp [World.setCell, Array.getElem?_modify, h.own]
theorem MSt.cell {w wr : World} {H : Nat} {cs : Array Value} (h : MSt w wr H cs) (i : Nat) : wr.cell? ⟨H, i, none⟩ = cs[i]? := cell_of_row _ _ _ _ _ _ h.own
theorem MSt.free {w wr : World} {H : Nat} {cs : Array Value} (h : MSt w wr H cs) (i : Nat) : wr.frozen? ⟨H, i, none⟩ = false := by
  simp [World.frozen?, h.own]

theorem cell_set_new (w : World) (a : Addr) (u : Value) (cs : Array Value) (t : TypeId) (i : Nat) : ((w.setCell a u).alloc (.cells cs t)).cell? ⟨w.heap.size, i, none⟩ = cs[i]? := by
  have h := World.cell?_alloc_new (w.setCell a u) cs t i
  have e : (w.setCell a u).heap.size = w.heap.size := by simp [World.setCell]
  rw [e] at h
  exact h

theorem heap_set_new (w : World) (a : Addr) (u : Value) (o : Obj) : ((w.setCell a u).alloc o).heap[w.heap.size]? = some o := by
  have e : (w.setCell a u).heap.size = w.heap.size := by simp [World.setCell]
  show ((w.setCell a u).heap.push o)[w.heap.size]? = _
  rw [← e, Array.getElem?_push_size]

/-! ### its parts -/
def Desc (lo : Nat) (w : World) (p : Value) (s : ByteArray) : Prop :=
  (s.toList.isEmpty = true → p = .pointer none) ∧ (s.toList.isEmpty = false → ∃ b, p = .pointer (some ⟨b, 0, none⟩) ∧ lo ≤ b ∧ b < w.heap.size ∧ w.cell? ⟨b, 0, none⟩ = some (.string ⟨#[112, 114, 101, 115, 101, 114, 118, 101]⟩) ∧ w.cell? ⟨b, 1, none⟩ = some (.string s))
def Props (lo : Nat) (w : World) (p : Value) (Ps : List (ByteArray × ByteArray)) : Prop :=
  (Ps.length = 0 → p = .pointer none) ∧ (0 < Ps.length → ∃ b v, p = .pointer (some ⟨b, 0, none⟩) ∧ lo ≤ b ∧ b < w.heap.size ∧ w.cell? ⟨b, 0, none⟩ = some v ∧ PairsA lo w v Ps)
def Bads (lo : Nat) (w : World) (p : Value) (Ps : List (ByteArray × ByteArray × ByteArray)) : Prop :=
  (Ps.length = 0 → p = .pointer none) ∧ (0 < Ps.length → ∃ b v, p = .pointer (some ⟨b, 0, none⟩) ∧ lo ≤ b ∧ b < w.heap.size ∧ w.cell? ⟨b, 0, none⟩ = some v ∧ TripsA lo w v Ps)

theorem Desc.above {lo : Nat} {w w' : World} {p : Value} {s : ByteArray} (h : Desc lo w p s) (ha : Above lo w w') : Desc lo w' p s := by
  refine ⟨h.1, fun hs => ?_⟩
  obtain ⟨b, h1, h2, h3, h4, h5⟩ := h.2 hs
  exact ⟨b, h1, h2, Nat.lt_of_lt_of_le h3 ha.size, by rw [ha.cell _ _ h2 h3]; exact h4, by rw [ha.cell _ _ h2 h3]; exact h5⟩
theorem Props.above {lo : Nat} {w w' : World} {p : Value} {Ps : List (ByteArray × ByteArray)} (h : Props lo w p Ps) (ha : Above lo w w') : Props lo w' p Ps := by
  refine ⟨h.1, fun hs => ?_⟩
  obtain ⟨b, v, h1, h2, h3, h4, h5⟩ := h.2 hs
  exact ⟨b, v, h1, h2, Nat.lt_of_lt_of_le h3 ha.size, by rw [ha.cell _ _ h2 h3]; exact h4, h5.above ha⟩
theorem Bads.above {lo : Nat} {w w' : World} {p : Value} {Ps : List (ByteArray × ByteArray × ByteArray)} (h : Bads lo w p Ps) (ha : Above lo w w') : Bads lo w' p Ps := by
  refine ⟨h.1, fun hs => ?_⟩
  obtain ⟨b, v, h1, h2, h3, h4, h5⟩ := h.2 hs
  exact ⟨b, v, h1, h2, Nat.lt_of_lt_of_le h3 ha.size, by rw [ha.cell _ _ h2 h3]; exact h4, h5.above ha⟩

/-! ### what manifestOf is handed -/
/-- The extension at block N, and how its lists lie. -/
structure Held (e : E) (N : Nat) (w : World) (vP vB vT vF : Value) : Prop where
  at0 : w.cell? ⟨N, 0, none⟩ = some (.string e.s0)
  at1 : w.cell? ⟨N, 1, none⟩ = some (.string e.s1)
  at2 : w.cell? ⟨N, 2, none⟩ = some (.string e.s2)
  at3 : w.cell? ⟨N, 3, none⟩ = some (.string e.s3)
  at4 : w.cell? ⟨N, 4, none⟩ = some (.string e.s4)
  at5 : w.cell? ⟨N, 5, none⟩ = some (.string e.s5)
  at6 : w.cell? ⟨N, 6, none⟩ = some (.string e.s6)
  at7 : w.cell? ⟨N, 7, none⟩ = some e.v7
  at8 : w.cell? ⟨N, 8, none⟩ = some e.v8
  at9 : w.cell? ⟨N, 9, none⟩ = some vP
  at10 : w.cell? ⟨N, 10, none⟩ = some vB
  at11 : w.cell? ⟨N, 11, none⟩ = some e.v11
  at12 : w.cell? ⟨N, 12, none⟩ = some vT
  at15 : w.cell? ⟨N, 15, none⟩ = some vF
  T : Texts w e.v7 e.T
  G : Texts w e.v8 e.G
  C : Texts w e.v11 e.C
  capT : Cap e.v7
  capG : Cap e.v8
  capC : Cap e.v11
  P : Pairs w vP e.P
  B : Trips w vB e.B
  Tg : Pairs w vT e.Tg
  F : FilsA 0 w vF e.F
  A : ∀ x ∈ e.F, Texts w x.av x.assets

def nsText : ByteArray := ⟨"http://schemas.microsoft.com/developer/vsx-schema/2011".toUTF8.data⟩

/-- The cells of a manifest. -/
def manCells (e : E) (ns ver lang : ByteArray) (dp pp bp vI vA : Value) : Array Value :=
  #[.string ⟨#[]⟩, .string ⟨#[]⟩, .string ns, .string ver, .string lang, .string e.s1, .string e.s2, .string e.s0, .string e.s3, dp, .string (glue e.T 44), .string (glue e.G 32), .string e.s5, .string (glue e.C 44), .string e.s6, pp, bp, vI, vA]
end Go.Proofs.Qxb6616617a.W
