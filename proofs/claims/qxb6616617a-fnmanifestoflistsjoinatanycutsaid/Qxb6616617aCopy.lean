/-
  Rows of the call's own while they are filled; the world while vsixB1ToExtension makes its copy.
-/
import Derived.Test.Qxb6616617aShapes
import Derived.Deep.RegionHeld
namespace Go.Proofs.Qxb6616617a.W
open Go.ChangeShapes Go.WideShapes Go.ChangeAt Go.RowKit
set_option linter.unusedVariables false

/-- Block H has n cells that may be written; the first k hold what tgt says. -/
def Row (w : World) (H n : Nat) (tgt : Nat → Option Value) (k : Nat) : Prop :=
  (∀ j, j < n → (w.cell? ⟨H, j, none⟩).isSome = true ∧ w.frozen? ⟨H, j, none⟩ = false) ∧ ∀ j, j < k → w.cell? ⟨H, j, none⟩ = tgt j

theorem Row.step {w : World} {H n : Nat} {tgt : Nat → Option Value} {k : Nat} (h : Row w H n tgt k) (hk : k < n) {u : Value} (hu : tgt k = some u) : Row (w.setCell ⟨H, k, none⟩ u) H n tgt (k + 1) := by
  obtain ⟨h1, h2⟩ := h
  obtain ⟨v, hv⟩ := Option.isSome_iff_exists.1 (h1 k hk).1
  have hs : (w.setCell ⟨H, k, none⟩ u).cell? ⟨H, k, none⟩ = some u := World.cell?_setCell_same _ _ _ hv
  refine ⟨fun j hj => ⟨?_, ?_⟩, fun j hj => ?_⟩
  · by_cases e : j = k
    · subst e; rw [hs]; rfl
    · rw [World.cell?_setCell_other _ _ _ _ (by intro e'; injection e' with _ e2 _; exact e e2.symm)]; exact (h1 j hj).1
  · rw [World.frozen?_setCell]; exact (h1 j hj).2
  · by_cases e : j = k
    · subst e; rw [hs, hu]
    · rw [World.cell?_setCell_other _ _ _ _ (by intro e'; injection e' with _ e2 _; exact e e2.symm)]; exact h2 j (by omega)

theorem Row.drew {w : World} {H n : Nat} {tgt : Nat → Option Value} {k : Nat} (h : Row w H n tgt k) : Row w.drew H n tgt k := h
theorem Row.drewN {w : World} {H n : Nat} {tgt : Nat → Option Value} {k : Nat} (h : Row w H n tgt k) (m : Nat) : Row (w.drewN m) H n tgt k := h

theorem frozen_new (w : World) (cs : Array Value) (t : TypeId) (i : Nat) : (w.alloc (.cells cs t)).frozen? ⟨w.heap.size, i, none⟩ = false := by
  rw [Go.RowKit.frozen?_alloc_cells]
  simp [World.frozen?]

theorem Row.made (w : World) (cs : Array Value) (t : TypeId) (tgt : Nat → Option Value) : Row (w.alloc (.cells cs t)) w.heap.size cs.size tgt 0 :=
  ⟨fun j hj => ⟨by rw [World.cell?_alloc_new]; simp [hj], frozen_new w cs t j⟩, fun j hj => absurd hj (by omega)⟩

theorem Row.kept {w w' : World} {H n : Nat} {tgt : Nat → Option Value} {k B : Nat} (h : Row w H n tgt k) (hb : Below B w w') (hH : H < B) : Row w' H n tgt k :=
  ⟨fun j hj => ⟨by rw [hb.cell (p := ⟨H, j, none⟩) hH]; exact (h.1 j hj).1, by rw [hb.frozen (p := ⟨H, j, none⟩) hH]; exact (h.1 j hj).2⟩, fun j hj => by rw [hb.cell (p := ⟨H, j, none⟩) hH]; exact h.2 j hj⟩

theorem Row.at {w : World} {H n : Nat} {tgt : Nat → Option Value} {k : Nat} (h : Row w H n tgt k) (j : Nat) (hj : j < n) : ∃ u, w.cell? ⟨H, j, none⟩ = some u ∧ w.frozen? ⟨H, j, none⟩ = false := by
  obtain ⟨v, hv⟩ := Option.isSome_iff_exists.1 (h.1 j hj).1
  exact ⟨v, hv, (h.1 j hj).2⟩

/-! ### what the rows are to hold -/
def tgt2 (P : List (ByteArray × ByteArray)) (j : Nat) : Option Value := (P[j / 2]?).map fun x => .string (if j % 2 = 0 then x.1 else x.2)
def tgt3 (P : List (ByteArray × ByteArray × ByteArray)) (j : Nat) : Option Value := (P[j / 3]?).map fun x => .string (if j % 3 = 0 then x.1 else if j % 3 = 1 then x.2.1 else x.2.2)
def tgt5 (P : List Fl) (j : Nat) : Option Value := (P[j / 5]?).map fun x => if j % 5 = 0 then .string x.path else if j % 5 = 1 then .string x.source else if j % 5 = 2 then .slice x.ca x.cn x.cc else if j % 5 = 3 then x.av else .bool x.addr

theorem tgt2_0 {P : List (ByteArray × ByteArray)} {k : Nat} {x} (h : P[k]? = some x) : tgt2 P (k * 2) = some (.string x.1) := by
  unfold tgt2
  rw [show k * 2 / 2 = k by omega, h]
  simp
theorem tgt2_1 {P : List (ByteArray × ByteArray)} {k : Nat} {x} (h : P[k]? = some x) : tgt2 P (k * 2 + 1) = some (.string x.2) := by
  unfold tgt2
  rw [show (k * 2 + 1) / 2 = k by omega, h]
  simp [show (k * 2 + 1) % 2 = 1 by omega]
theorem tgt3_0 {P : List (ByteArray × ByteArray × ByteArray)} {k : Nat} {x} (h : P[k]? = some x) : tgt3 P (k * 3) = some (.string x.1) := by
  unfold tgt3
  rw [show k * 3 / 3 = k by omega, h]
  simp
theorem tgt3_1 {P : List (ByteArray × ByteArray × ByteArray)} {k : Nat} {x} (h : P[k]? = some x) : tgt3 P (k * 3 + 1) = some (.string x.2.1) := by
  unfold tgt3
  rw [show (k * 3 + 1) / 3 = k by omega, h]
  simp [show (k * 3 + 1) % 3 = 1 by omega]
theorem tgt3_2 {P : List (ByteArray × ByteArray × ByteArray)} {k : Nat} {x} (h : P[k]? = some x) : tgt3 P (k * 3 + 2) = some (.string x.2.2) := by
  unfold tgt3
  rw [show (k * 3 + 2) / 3 = k by omega, h]
  simp [show (k * 3 + 2) % 3 = 2 by omega]
theorem tgt5_0 {P : List Fl} {k : Nat} {x} (h : P[k]? = some x) : tgt5 P (k * 5) = some (.string x.path) := by
  unfold tgt5
  rw [show k * 5 / 5 = k by omega, h]
  simp
theorem tgt5_1 {P : List Fl} {k : Nat} {x} (h : P[k]? = some x) : tgt5 P (k * 5 + 1) = some (.string x.source) := by
  unfold tgt5
  rw [show (k * 5 + 1) / 5 = k by omega, h]
  simp [show (k * 5 + 1) % 5 = 1 by omega]
theorem tgt5_2 {P : List Fl} {k : Nat} {x} (h : P[k]? = some x) : tgt5 P (k * 5 + 2) = some (.slice x.ca x.cn x.cc) := by
  unfold tgt5
  rw [show (k * 5 + 2) / 5 = k by omega, h]
  simp [show (k * 5 + 2) % 5 = 2 by omega]
theorem tgt5_3 {P : List Fl} {k : Nat} {x} (h : P[k]? = some x) : tgt5 P (k * 5 + 3) = some x.av := by
  unfold tgt5
  rw [show (k * 5 + 3) / 5 = k by omega, h]
  simp [show (k * 5 + 3) % 5 = 3 by omega]
theorem tgt5_4 {P : List Fl} {k : Nat} {x} (h : P[k]? = some x) : tgt5 P (k * 5 + 4) = some (.bool x.addr) := by
  unfold tgt5
  rw [show (k * 5 + 4) / 5 = k by omega, h]
  simp [show (k * 5 + 4) % 5 = 4 by omega]

/-! ### lists that lie in the call's own memory, from block lo on -/
def PairsA (lo : Nat) (w : World) (v : Value) (Ps : List (ByteArray × ByteArray)) : Prop :=
  ∃ b o, Head w v Ps.length b o ∧ (0 < Ps.length → lo ≤ b) ∧ ∀ (j : Nat) x, Ps[j]? = some x → w.cell? ⟨b, o + j * 2, none⟩ = some (.string x.1) ∧ w.cell? ⟨b, o + j * 2 + 1, none⟩ = some (.string x.2)
def TripsA (lo : Nat) (w : World) (v : Value) (Ps : List (ByteArray × ByteArray × ByteArray)) : Prop :=
  ∃ b o, Head w v Ps.length b o ∧ (0 < Ps.length → lo ≤ b) ∧ ∀ (j : Nat) x, Ps[j]? = some x → w.cell? ⟨b, o + j * 3, none⟩ = some (.string x.1) ∧ w.cell? ⟨b, o + j * 3 + 1, none⟩ = some (.string x.2.1) ∧ w.cell? ⟨b, o + j * 3 + 2, none⟩ = some (.string x.2.2)
/-- .. files: the rows alone; the assets' own lists lie where they lay. -/
def FilsA (lo : Nat) (w : World) (v : Value) (Ps : List Fl) : Prop :=
  ∃ b o, Head w v Ps.length b o ∧ (0 < Ps.length → lo ≤ b) ∧ ∀ (j : Nat) x, Ps[j]? = some x → w.cell? ⟨b, o + j * 5, none⟩ = some (.string x.path) ∧ w.cell? ⟨b, o + j * 5 + 1, none⟩ = some (.string x.source) ∧ w.cell? ⟨b, o + j * 5 + 2, none⟩ = some (.slice x.ca x.cn x.cc) ∧
    w.cell? ⟨b, o + j * 5 + 3, none⟩ = some x.av ∧ w.cell? ⟨b, o + j * 5 + 4, none⟩ = some (.bool x.addr)

theorem Head.nil (w : World) : Head w (.slice none 0 0) 0 0 0 := ⟨none, 0, rfl, fun h => absurd h (by omega), fun _ => ⟨rfl, rfl⟩⟩
theorem PairsA.nil (lo : Nat) (w : World) {Ps : List (ByteArray × ByteArray)} (h : Ps.length = 0) : PairsA lo w (.slice none 0 0) Ps :=
  ⟨0, 0, by rw [h]; exact Head.nil w, fun h' => absurd h' (by omega), fun j x hx => absurd (len_of hx) (by omega)⟩
theorem TripsA.nil (lo : Nat) (w : World) {Ps : List (ByteArray × ByteArray × ByteArray)} (h : Ps.length = 0) : TripsA lo w (.slice none 0 0) Ps :=
  ⟨0, 0, by rw [h]; exact Head.nil w, fun h' => absurd h' (by omega), fun j x hx => absurd (len_of hx) (by omega)⟩
theorem FilsA.nil (lo : Nat) (w : World) {Ps : List Fl} (h : Ps.length = 0) : FilsA lo w (.slice none 0 0) Ps :=
  ⟨0, 0, by rw [h]; exact Head.nil w, fun h' => absurd h' (by omega), fun j x hx => absurd (len_of hx) (by omega)⟩

theorem Head.own {w : World} {n H c : Nat} (hH : H < w.heap.size) : Head w (.slice (some ⟨H, 0, none⟩) n c) n H 0 := ⟨_, c, rfl, fun _ => ⟨rfl, hH⟩, fun h => by cases h⟩

theorem PairsA.row {lo : Nat} {w : World} {H c : Nat} {Ps : List (ByteArray × ByteArray)} (h : Row w H (Ps.length * 2) (tgt2 Ps) (Ps.length * 2)) (hH : H < w.heap.size) (hlo : lo ≤ H) : PairsA lo w (.slice (some ⟨H, 0, none⟩) Ps.length c) Ps := by
  refine ⟨H, 0, Head.own hH, fun _ => hlo, fun j x hx => ?_⟩
  have hj := len_of hx
  rw [Nat.zero_add, h.2 _ (by omega), h.2 _ (by omega)]
  exact ⟨tgt2_0 hx, tgt2_1 hx⟩
theorem TripsA.row {lo : Nat} {w : World} {H c : Nat} {Ps : List (ByteArray × ByteArray × ByteArray)} (h : Row w H (Ps.length * 3) (tgt3 Ps) (Ps.length * 3)) (hH : H < w.heap.size) (hlo : lo ≤ H) : TripsA lo w (.slice (some ⟨H, 0, none⟩) Ps.length c) Ps := by
  refine ⟨H, 0, Head.own hH, fun _ => hlo, fun j x hx => ?_⟩
  have hj := len_of hx
  rw [Nat.zero_add, h.2 _ (by omega), h.2 _ (by omega), h.2 _ (by omega)]
  exact ⟨tgt3_0 hx, tgt3_1 hx, tgt3_2 hx⟩
theorem FilsA.row {lo : Nat} {w : World} {H c : Nat} {Ps : List Fl} (h : Row w H (Ps.length * 5) (tgt5 Ps) (Ps.length * 5)) (hH : H < w.heap.size) (hlo : lo ≤ H) : FilsA lo w (.slice (some ⟨H, 0, none⟩) Ps.length c) Ps := by
  refine ⟨H, 0, Head.own hH, fun _ => hlo, fun j x hx => ?_⟩
  have hj := len_of hx
  rw [Nat.zero_add, h.2 _ (by omega), h.2 _ (by omega), h.2 _ (by omega), h.2 _ (by omega), h.2 _ (by omega)]
  exact ⟨tgt5_0 hx, tgt5_1 hx, tgt5_2 hx, tgt5_3 hx, tgt5_4 hx⟩

/-- From block lo on nothing that is there turns. -/
structure Above (lo : Nat) (w w' : World) : Prop where
  size : w.heap.size ≤ w'.heap.size
  cell : ∀ b o, lo ≤ b → b < w.heap.size → w'.cell? ⟨b, o, none⟩ = w.cell? ⟨b, o, none⟩
theorem Above.trans {lo : Nat} {a b c : World} (h : Above lo a b) (h' : Above lo b c) : Above lo a c :=
  ⟨Nat.le_trans h.size h'.size, fun x o h1 h2 => (h'.cell x o h1 (Nat.lt_of_lt_of_le h2 h.size)).trans (h.cell x o h1 h2)⟩
theorem Above.refl (lo : Nat) (w : World) : Above lo w w := ⟨Nat.le_refl _, fun _ _ _ _ => rfl⟩
theorem Above.below {lo : Nat} {w w' : World} (h : Below w.heap.size w w') : Above lo w w' := ⟨h.size, fun b o _ h2 => h.cell (p := ⟨b, o, none⟩) h2⟩
theorem Above.set {lo : Nat} (w : World) {a : Addr} (h : a.block < lo) (v : Value) : Above lo w (w.setCell a v) :=
  ⟨by simp [World.setCell], fun b o h1 h2 => World.cell?_setCell_far w a ⟨b, o, none⟩ v (by show a.block ≠ b; omega)⟩

theorem Head.above {w w' : World} {v : Value} {n b o : Nat} (h : Head w v n b o) (hs : w.heap.size ≤ w'.heap.size) : Head w' v n b o := by
  obtain ⟨a, c, h1, h2, h3⟩ := h
  exact ⟨a, c, h1, fun h => ⟨(h2 h).1, Nat.lt_of_lt_of_le (h2 h).2 hs⟩, h3⟩
theorem PairsA.above {lo : Nat} {w w' : World} {v : Value} {Ps : List (ByteArray × ByteArray)} (h : PairsA lo w v Ps) (ha : Above lo w w') : PairsA lo w' v Ps := by
  obtain ⟨b, o, hh, hl, hc⟩ := h
  refine ⟨b, o, hh.above ha.size, hl, fun j X hX => ?_⟩
  have hj := len_of hX
  rw [ha.cell b _ (hl (by omega)) (hh.lt hj), ha.cell b _ (hl (by omega)) (hh.lt hj)]
  exact hc j X hX
theorem TripsA.above {lo : Nat} {w w' : World} {v : Value} {Ps : List (ByteArray × ByteArray × ByteArray)} (h : TripsA lo w v Ps) (ha : Above lo w w') : TripsA lo w' v Ps := by
  obtain ⟨b, o, hh, hl, hc⟩ := h
  refine ⟨b, o, hh.above ha.size, hl, fun j X hX => ?_⟩
  have hj := len_of hX
  rw [ha.cell b _ (hl (by omega)) (hh.lt hj), ha.cell b _ (hl (by omega)) (hh.lt hj), ha.cell b _ (hl (by omega)) (hh.lt hj)]
  exact hc j X hX
theorem PairsA.pairs {lo : Nat} {w : World} {v : Value} {Ps : List (ByteArray × ByteArray)} (h : PairsA lo w v Ps) : Pairs w v Ps := by
  obtain ⟨b, o, hh, hl, hc⟩ := h
  exact ⟨b, o, hh, hc⟩
theorem TripsA.trips {lo : Nat} {w : World} {v : Value} {Ps : List (ByteArray × ByteArray × ByteArray)} (h : TripsA lo w v Ps) : Trips w v Ps := by
  obtain ⟨b, o, hh, hl, hc⟩ := h
  exact ⟨b, o, hh, hc⟩

/-! ### the copy's own struct -/
def zero80 : Array Value := #[.string { data := #[] }, .string { data := #[] }, .string { data := #[] }, .string { data := #[] }, .string { data := #[] }, .string { data := #[] }, .string { data := #[] }, .slice none 0 0, .slice none 0 0, .slice none 0 0, .slice none 0 0, .slice none 0 0, .slice none 0 0, .slice none 0 0, .slice none 0 0, .slice none 0 0]

/-- THE WORLD WHILE THE COPY IS MADE: w's own blocks stand; the next block is the result's cell, the one behind it the copy. -/
structure St (w wr : World) (cs : Array Value) : Prop where
  below : Below w.heap.size w wr
  size : w.heap.size + 2 ≤ wr.heap.size
  res : wr.heap[w.heap.size]? = some (.cells zero80 80 (0, 0))
  own : wr.heap[w.heap.size + 1]? = some (.cells cs 80 (0, 0))

theorem St.start (w : World) (cs : Array Value) : St w ((w.alloc (.cells zero80 80)).alloc (.cells cs 80)).drew cs := by
  refine ⟨?_, ?_, ?_, ?_⟩
  · exact below_drewN (((Below.refl _ _).alloc (Nat.le_refl _) _).alloc (by simp) _) 1
  · simp
  · rw [show ((w.alloc (.cells zero80 80)).alloc (.cells cs 80)).drew.heap = (w.heap.push (.cells zero80 80 (0, 0))).push (.cells cs 80 (0, 0)) from rfl]
    rw [Array.getElem?_push_lt (by simp), ← Array.getElem?_eq_getElem]
    simp
  · rw [show ((w.alloc (.cells zero80 80)).alloc (.cells cs 80)).drew.heap = (w.heap.push (.cells zero80 80 (0, 0))).push (.cells cs 80 (0, 0)) from rfl]
    have e1 : w.heap.size + 1 = (w.heap.push (.cells zero80 80 (0, 0))).size := by simp
    rw [e1, Array.getElem?_push_size]

theorem St.next {w wr wl : World} {cs : Array Value} (h : St w wr cs) (hb : Below wr.heap.size wr wl) : St w wl cs := by
  have hs := h.size
  exact ⟨h.below.trans (hb.mono (by omega)), Nat.le_trans h.size hb.size, (hb.block _ (by omega)).trans h.res, (hb.block _ (by omega)).trans h.own⟩

theorem St.set {w wr : World} {cs : Array Value} (h : St w wr cs) (i : Nat) (v : Value) : St w (wr.setCell ⟨w.heap.size + 1, i, none⟩ v) (cs.setIfInBounds i v) := by
  refine ⟨h.below.setCell (by show w.heap.size ≤ w.heap.size + 1; omega) v, by have := h.size; simpa [World.setCell] using this, ?_, ?_⟩
  · rw [Below.heap_setCell _ _ _ _ (by show w.heap.size ≠ w.heap.size + 1; omega)]
    exact h.res
  · simp [World.setCell, Array.getElem?_modify, h.own]

theorem St.cell {w wr : World} {cs : Array Value} (h : St w wr cs) (i : Nat) : wr.cell? ⟨w.heap.size + 1, i, none⟩ = cs[i]? := cell_of_row _ _ _ _ _ _ h.own
theorem St.free {w wr : World} {cs : Array Value} (h : St w wr cs) (i : Nat) : wr.frozen? ⟨w.heap.size + 1, i, none⟩ = false := by
  simp [World.frozen?, h.own]
theorem St.rcell {w wr : World} {cs : Array Value} (h : St w wr cs) (i : Nat) : wr.cell? ⟨w.heap.size, i, none⟩ = zero80[i]? := cell_of_row _ _ _ _ _ _ h.res
theorem St.rfree {w wr : World} {cs : Array Value} (h : St w wr cs) (i : Nat) : wr.frozen? ⟨w.heap.size, i, none⟩ = false := by
  simp [World.frozen?, h.res]

/-- 'make([]T, n)': the run, the new cells behind a name. -/
theorem make_eq (t e : TypeId) (i : TypeInfo) (z : Value) (size bytes n : Nat) (ht : Try.prog.underlying t = some (.slice e)) (hi : Try.prog.info? e = some i) (hz : i.zero = some z) (hsize : i.size = size) (hby : i.bytes = bytes) (hb : bytes * n ≤ 281474976710656) (hn : n ≤ 1048576) :
    ∃ mc : Array Value, mc.size = n * size ∧ ∀ w : World, (Instr.makeSlice t (.int .i64 (n : Int)) (.int .i64 (n : Int))).run Try.prog w = .ok (.slice (some ⟨w.heap.size, 0, none⟩) n n) (w.alloc (.cells mc e)) := by
  subst hsize
  subst hby
  refine ⟨madeCells z.cells (n * i.size), size_madeCells _ _, fun w => ?_⟩
  have hb' : (i.bytes : Int) * (n : Int) ≤ 281474976710656 := by
    have h : ((i.bytes * n : Nat) : Int) ≤ 281474976710656 := by omega
    rwa [Int.natCast_mul] at h
  have hr := run_make (P := Try.prog) w t e i z ht hi hz .i64 .i64 n n (by omega) (Int.le_refl _) hb' (by omega)
  simpa only [Int.toNat_natCast] using hr
end Go.Proofs.Qxb6616617a.W
