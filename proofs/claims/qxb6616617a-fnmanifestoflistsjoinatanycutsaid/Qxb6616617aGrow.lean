/-
  The manifest's memory behind one append and the store of the new slice.
-/
import Derived.Test.Qxb6616617aMan
import Derived.Test.Qxb6616617aGate
namespace Go.Proofs.Qxb6616617a.W
open Go.ChangeShapes Go.WideShapes Go.ChangeAt Go.RowKit
set_option linter.unusedVariables false

theorem own_ge {w : World} {base : Nat} {e : TypeId} {size n : Nat} {v : Value} {xs : List Value} (h : w.ownsRow base e size v n xs) : ∀ k, v.ownBlock = some k → base ≤ k ∧ k < w.heap.size := fun k hk => by
  rcases h.2 with ⟨rfl, _⟩ | ⟨g, cap, cur, rfl, hb, hg, _⟩
  · simp [Value.ownBlock] at hk
  · have : g = k := by simpa [Value.ownBlock] using hk
    subst this
    exact ⟨hb, (Array.getElem?_eq_some_iff.1 hg).1⟩

theorem MSt.upto {w wr wl : World} {H B : Nat} {cs : Array Value} (h : MSt w wr H cs) (hb : Below B wr wl) (hB : H < B) (hs : wr.heap.size ≤ wl.heap.size) : MSt w wl H cs := by
  have := h.lo
  exact ⟨h.below.trans (hb.mono (by omega)), h.lo, Nat.lt_of_lt_of_le h.lt hs, (hb.block _ hB).trans h.own⟩
theorem MSt.off {w wr : World} {H : Nat} {cs : Array Value} (h : MSt w wr H cs) {a : Addr} (ha : H < a.block) (v : Value) : MSt w (wr.setCell a v) H cs := by
  have := h.lo
  refine ⟨h.below.setCell (by omega) v, h.lo, by have := h.lt; simpa [World.setCell] using this, ?_⟩
  rw [Below.heap_setCell _ _ _ _ (by omega)]
  exact h.own
theorem Above.upto {lo B : Nat} {a b c : World} (h : Above lo a b) (hb : Below B b c) (hB : a.heap.size ≤ B) : Above lo a c :=
  ⟨Nat.le_trans h.size hb.size, fun x o h1 h2 => (hb.cell (p := ⟨x, o, none⟩) (by show x < B; omega)).trans (h.cell x o h1 h2)⟩
theorem Above.off {lo : Nat} {a b : World} (h : Above lo a b) {p : Addr} (hp : a.heap.size ≤ p.block ∨ p.block < lo) (v : Value) : Above lo a (b.setCell p v) :=
  ⟨by have := h.size; simpa [World.setCell] using this, fun x o h1 h2 => (World.cell?_setCell_far b p ⟨x, o, none⟩ v (by show p.block ≠ x; omega)).trans (h.cell x o h1 h2)⟩

theorem grow_below {wr w1 : World} {base : Nat} {e : TypeId} {size n : Nat} {v : Value} {xs : List Value} {o1 o2 : Obj} (h : wr.ownsRow base e size v n xs) (hb : base ≤ wr.heap.size) (hg : ((wr.alloc o1).alloc o2).drew.grownBy w1 v.ownBlock) : Below base wr w1 :=
  Below.grown (((Below.refl _ _).alloc hb o1).alloc (by show base ≤ (wr.alloc o1).heap.size; simp; omega) o2).drew hg (by show base ≤ ((wr.alloc o1).alloc o2).heap.size; simp; omega) (fun k hk => (own_ge h k hk).1)

theorem grow_own {wr : World} {base : Nat} {e : TypeId} {size n : Nat} {v : Value} {xs : List Value} {o1 o2 : Obj} (h : wr.ownsRow base e size v n xs) : ((wr.alloc o1).alloc o2).drew.ownsRow base e size v n xs :=
  World.ownsRow.alloc (World.ownsRow.alloc h o1) o2

theorem grow_cell {wr w1 : World} {base : Nat} {e : TypeId} {size n : Nat} {v : Value} {xs : List Value} {o1 o2 : Obj} (h : wr.ownsRow base e size v n xs) (hg : ((wr.alloc o1).alloc o2).drew.grownBy w1 v.ownBlock) (i : Nat) : w1.cell? ⟨wr.heap.size, i, none⟩ = (wr.alloc o1).cell? ⟨wr.heap.size, i, none⟩ := by
  rw [hg.cell_far ⟨wr.heap.size, i, none⟩ (by show wr.heap.size < ((wr.alloc o1).alloc o2).heap.size; simp; omega) (fun e => by have := (own_ge h _ e.symm).2; simp at this)]
  exact World.cell?_alloc_lt _ _ _ (by simp)

theorem new1 (wr : World) (cs : Array Value) (t : TypeId) (i : Nat) : (wr.alloc (.cells cs t)).drew.cell? ⟨wr.heap.size, i, none⟩ = cs[i]? := World.cell?_alloc_new wr cs t i
theorem old1 (wr : World) (o : Obj) (p : Addr) (h : p.block < wr.heap.size) : (wr.alloc o).drew.cell? p = wr.cell? p := World.cell?_alloc_lt _ _ _ h
theorem new2 (wr : World) (cs : Array Value) (t : TypeId) (o2 : Obj) (i : Nat) : ((wr.alloc (.cells cs t)).alloc o2).drew.cell? ⟨wr.heap.size, i, none⟩ = cs[i]? := (World.cell?_alloc_lt (wr.alloc (.cells cs t)) o2 ⟨wr.heap.size, i, none⟩ (by simp)).trans (World.cell?_alloc_new wr cs t i)
theorem old2 (wr : World) (o1 o2 : Obj) (p : Addr) (h : p.block < wr.heap.size) : ((wr.alloc o1).alloc o2).drew.cell? p = wr.cell? p := (World.cell?_alloc_lt (wr.alloc o1) o2 p (by simp; omega)).trans (World.cell?_alloc_lt _ _ _ h)
theorem heap2 (wr : World) (o1 o2 : Obj) : ((wr.alloc o1).alloc o2).drew.heap[wr.heap.size + 1]? = some o2 := by
  show ((wr.heap.push o1).push o2)[wr.heap.size + 1]? = some o2
  have e : wr.heap.size + 1 = (wr.heap.push o1).size := by simp
  rw [e, Array.getElem?_push_size]
theorem size2 (wr : World) (o1 o2 : Obj) : ((wr.alloc o1).alloc o2).drew.heap.size = wr.heap.size + 2 := by
  show ((wr.heap.push o1).push o2).size = _
  simp
theorem grow_old {wr w1 : World} {base : Nat} {e : TypeId} {size n : Nat} {v : Value} {xs : List Value} {o1 o2 : Obj} (h : wr.ownsRow base e size v n xs) (hb : base ≤ wr.heap.size) (hg : ((wr.alloc o1).alloc o2).drew.grownBy w1 v.ownBlock) (p : Addr) (hp : p.block < base) : w1.cell? p = wr.cell? p :=
  (grow_below h hb hg).cell hp
theorem grow_free {wr w1 : World} {base : Nat} {e : TypeId} {size n : Nat} {v : Value} {xs : List Value} {o1 o2 : Obj} (h : wr.ownsRow base e size v n xs) (hb : base ≤ wr.heap.size) (hg : ((wr.alloc o1).alloc o2).drew.grownBy w1 v.ownBlock) (p : Addr) (hp : p.block < base) : w1.frozen? p = wr.frozen? p :=
  (grow_below h hb hg).frozen hp

theorem info_row {e : TypeId} {size bytes : Nat} (h : (Try.prog.info? e).map (fun i => (i.zero.map (fun z => z.cells.size), i.size, i.bytes)) = some (some size, size, bytes)) : ∃ i z, Try.prog.info? e = some i ∧ i.zero = some z ∧ i.size = size ∧ i.bytes = bytes ∧ z.cells.size = size := by
  obtain ⟨i, hi, hx⟩ := Option.map_eq_some_iff.1 h
  simp only [Prod.mk.injEq] at hx
  obtain ⟨z, hz, hc⟩ := Option.map_eq_some_iff.1 hx.1
  exact ⟨i, z, hi, hz, hx.2.1, hx.2.2, hc⟩

/-- One alone may come up, and nothing guards it. -/
theorem AnyS.one1 {P : Program} {md : Region.Mode} {ops : Array Oper} {Q : Exit → Act → World → Prop} {S : Array Bool → World → Prop} {i : Nat} {oi : Oper} {fuel : Nat} {l : Array Bool} {a : Act} {w : World} (hi : ops[i]? = some oi) (hr : Region.ready md ops l = [i]) (hgd : oi.guard = none)
    (h : ∀ (Q' : Exit → Act → World → Prop) (K' : Act → World → Prop), Hid (∀ a w, S (l.setIfInBounds i true) w → (S (l.setIfInBounds i true) w → AnyS P md ops Q S fuel (l.setIfInBounds i true) a w) → K' a w) → Oper.wp P oi a w K' Q') :
    AnyS P md ops Q S (fuel + 1) l a w := by
  refine AnyS.one hi hr fun K' hK => ?_
  have hw : Region.wanted oi (yielded ops a.tmps) = true := by simp [Region.wanted, hgd]
  rw [if_pos hw]
  exact h _ _ hK

/-- The state of a round of the loops over Properties and Badges: the list lies in block Q, its row behind it. -/
def StQ (w wc wl : World) (H Q : Nat) (cs : Array Value) (pt e : TypeId) (size : Nat) (v : Value) (k : Nat) (xs : List Value) : Prop :=
  MSt w wl H cs ∧ wl.heap[Q]? = some (.cells #[v] pt (0, 0)) ∧ Above (H + 1) wc wl ∧ wl.ownsRow (Q + 1) e size v k xs ∧ Q + 1 ≤ wl.heap.size

theorem StQ.push {w wc wr w1 : World} {H Q : Nat} {cs : Array Value} {pt e : TypeId} {size : Nat} {v v' : Value} {k k' : Nat} {xs xs' : List Value} {o1 o2 : Obj} (h : StQ w wc wr H Q cs pt e size v k xs) (hQ : wc.heap.size = Q) (hH : H < Q)
    (ho : w1.ownsRow (Q + 1) e size v' k' xs') (hg : ((wr.alloc o1).alloc o2).drew.grownBy w1 v.ownBlock) : StQ w wc (w1.setCell ⟨Q, 0, none⟩ v') H Q cs pt e size v' k' xs' := by
  obtain ⟨h1, h2, h3, h4, h5⟩ := h
  have hb := grow_below h4 h5 hg
  have hs : wr.heap.size ≤ w1.heap.size := hb.size
  refine ⟨(h1.upto hb (by omega) hs).off (by show H < Q; omega) _, ?_, (h3.upto hb (by omega)).off (.inl (by show wc.heap.size ≤ Q; omega)) _, ownsRow_setCell_below ho (by show Q < Q + 1; omega) _, by simp [World.setCell]; omega⟩
  have e := (hb.block Q (by omega)).trans h2
  simp [World.setCell, Array.getElem?_modify, e]

/-- .. over Targets and Files: the list lies in the manifest's own cell i. -/
def StH (w wc wl : World) (H : Nat) (cs : Array Value) (e : TypeId) (size : Nat) (v : Value) (k : Nat) (xs : List Value) : Prop :=
  MSt w wl H cs ∧ Above (H + 1) wc wl ∧ wl.ownsRow wc.heap.size e size v k xs ∧ wc.heap.size ≤ wl.heap.size

theorem StH.push {w wc wr w1 : World} {H : Nat} {cs : Array Value} {e : TypeId} {size : Nat} {v v' : Value} {k k' : Nat} {xs xs' : List Value} {o1 o2 : Obj} (h : StH w wc wr H cs e size v k xs) (hH : H < wc.heap.size) (i : Nat)
    (ho : w1.ownsRow wc.heap.size e size v' k' xs') (hg : ((wr.alloc o1).alloc o2).drew.grownBy w1 v.ownBlock) : StH w wc (w1.setCell ⟨H, i, none⟩ v') H (cs.setIfInBounds i v') e size v' k' xs' := by
  obtain ⟨h1, h3, h4, h5⟩ := h
  have hb := grow_below h4 h5 hg
  have hs : wr.heap.size ≤ w1.heap.size := hb.size
  exact ⟨(h1.upto hb hH hs).set i _, (h3.upto hb (Nat.le_refl _)).off (.inr (by show H < H + 1; omega)) _, ownsRow_setCell_below ho (by show H < wc.heap.size; omega) _, by simp [World.setCell]; omega⟩

/-! ### one alloc alone in front of the append (the assets) -/
theorem old0 (wr : World) (p : Addr) (_ : p.block < wr.heap.size) : wr.drew.cell? p = wr.cell? p := rfl
theorem heap1 (wr : World) (o2 : Obj) : (wr.alloc o2).drew.heap[wr.heap.size]? = some o2 := by
  show (wr.heap.push o2)[wr.heap.size]? = some o2
  rw [Array.getElem?_push_size]
theorem size1 (wr : World) (o2 : Obj) : (wr.alloc o2).drew.heap.size = wr.heap.size + 1 := by
  show (wr.heap.push o2).size = _
  simp
theorem grow_own1 {wr : World} {base : Nat} {e : TypeId} {size n : Nat} {v : Value} {xs : List Value} {o2 : Obj} (h : wr.ownsRow base e size v n xs) : (wr.alloc o2).drew.ownsRow base e size v n xs :=
  World.ownsRow.alloc h o2
theorem grow_below1 {wr w1 : World} {base : Nat} {e : TypeId} {size n : Nat} {v : Value} {xs : List Value} {o2 : Obj} (h : wr.ownsRow base e size v n xs) (hb : base ≤ wr.heap.size) (hg : (wr.alloc o2).drew.grownBy w1 v.ownBlock) : Below base wr w1 :=
  Below.grown ((Below.refl _ _).alloc hb o2).drew hg (by show base ≤ (wr.alloc o2).heap.size; simp; omega) (fun k hk => (own_ge h k hk).1)
theorem grow_old1 {wr w1 : World} {base : Nat} {e : TypeId} {size n : Nat} {v : Value} {xs : List Value} {o2 : Obj} (h : wr.ownsRow base e size v n xs) (hb : base ≤ wr.heap.size) (hg : (wr.alloc o2).drew.grownBy w1 v.ownBlock) (p : Addr) (hp : p.block < base) : w1.cell? p = wr.cell? p :=
  (grow_below1 h hb hg).cell hp
theorem grow_free1 {wr w1 : World} {base : Nat} {e : TypeId} {size n : Nat} {v : Value} {xs : List Value} {o2 : Obj} (h : wr.ownsRow base e size v n xs) (hb : base ≤ wr.heap.size) (hg : (wr.alloc o2).drew.grownBy w1 v.ownBlock) (p : Addr) (hp : p.block < base) : w1.frozen? p = wr.frozen? p :=
  (grow_below1 h hb hg).frozen hp
theorem grow_cell1 {wr w1 : World} {v : Value} {o2 : Obj} (hg : (wr.alloc o2).drew.grownBy w1 v.ownBlock) (p : Addr) (hp : p.block < wr.heap.size) (hv : v.ownBlock ≠ some p.block) : w1.cell? p = wr.cell? p := by
  rw [hg.cell_far p (by rw [size1]; omega) (fun e => hv e.symm)]
  exact World.cell?_alloc_lt _ _ _ hp

/-- The state of a round over one file's Assets; block K is the file's own copy. -/
def StF (w wc wl : World) (H : Nat) (cs : Array Value) (v : Value) (n : Nat) (xs : List Value) (K : Nat) (path : ByteArray) (addr : Bool) : Prop :=
  StH w wc wl H cs 122 3 v n xs ∧ v.ownBlock ≠ some K ∧ K < wl.heap.size ∧ wl.cell? ⟨K, 0, none⟩ = some (.string path) ∧ wl.cell? ⟨K, 4, none⟩ = some (.bool addr)

theorem StH.next {w wc wr wl : World} {H : Nat} {cs : Array Value} {e : TypeId} {size : Nat} {v : Value} {k : Nat} {xs : List Value} (h : StH w wc wr H cs e size v k xs) (o : Obj) : StH w wc (wr.alloc o) H cs e size v k xs := by
  obtain ⟨h1, h3, h4, h5⟩ := h
  have hb : Below wr.heap.size wr (wr.alloc o) := (Below.refl _ _).alloc (Nat.le_refl _) o
  exact ⟨h1.next hb, h3.trans (Above.below hb), World.ownsRow.alloc h4 o, by simp; omega⟩

theorem StF.start {w wc wr : World} {H : Nat} {cs : Array Value} {v : Value} {n : Nat} {xs : List Value} (h : StH w wc wr H cs 122 3 v n xs) (c0 c1 c2 c3 c4 : Value) (t : TypeId) {path : ByteArray} {addr : Bool} (h0 : c0 = .string path) (h4 : c4 = .bool addr) :
    StF w wc (wr.alloc (.cells #[c0, c1, c2, c3, c4] t)) H cs v n xs wr.heap.size path addr := by
  subst h0 h4
  exact ⟨StH.next (wl := wr) h _, fun e => by have := (own_ge h.2.2.1 _ e).2; omega, by simp, World.cell?_alloc_new _ _ _ 0, World.cell?_alloc_new _ _ _ 4⟩

theorem StF.push {w wc wr w1 : World} {H : Nat} {cs : Array Value} {v : Value} {n n' : Nat} {xs xs' : List Value} {K : Nat} {path : ByteArray} {addr : Bool} {o2 : Obj} {g m cap H' : Nat} (h : StF w wc wr H cs v n xs K path addr) (hH : H < wc.heap.size) (hK : wc.heap.size ≤ K) (i : Nat)
    (ho : w1.ownsRow wc.heap.size 122 3 (.slice (some ⟨g, 0, none⟩) m cap) n' xs') (hg : (wr.alloc o2).drew.grownBy w1 v.ownBlock) (hat : v.ownBlock = some g ∨ g = H') (hH' : wr.heap.size < H' ∨ wr.heap.size + 1 = H' ∨ K < H') :
    StF w wc (w1.setCell ⟨H, i, none⟩ (.slice (some ⟨g, 0, none⟩) m cap)) H (cs.setIfInBounds i (.slice (some ⟨g, 0, none⟩) m cap)) (.slice (some ⟨g, 0, none⟩) m cap) n' xs' K path addr := by
  obtain ⟨⟨h1, h3, h4, h5⟩, h6, h7, h8, h9⟩ := h
  have hb := grow_below1 h4 h5 hg
  have hs : wr.heap.size ≤ w1.heap.size := hb.size
  refine ⟨⟨(h1.upto hb hH hs).set i _, (h3.upto hb (Nat.le_refl _)).off (.inr (by show H < H + 1; omega)) _, ownsRow_setCell_below ho (by show H < wc.heap.size; omega) _, by simp [World.setCell]; omega⟩, ?_, by simp [World.setCell]; omega, ?_, ?_⟩
  · intro e
    have e' : g = K := by simpa [Value.ownBlock] using e
    subst e'
    rcases hat with hat | hat
    · exact h6 hat
    · omega
  · rw [World.cell?_setCell_far _ _ _ _ (by show H ≠ K; omega), grow_cell1 hg ⟨K, 0, none⟩ h7 h6]; exact h8
  · rw [World.cell?_setCell_far _ _ _ _ (by show H ≠ K; omega), grow_cell1 hg ⟨K, 4, none⟩ h7 h6]; exact h9

theorem assetsAll_take {F : List Fl} {k : Nat} {x : Fl} (h : F[k]? = some x) : assetsAll (F.take (k + 1)) = assetsAll (F.take k) ++ assetsOf x := by
  unfold assetsAll
  rw [List.take_add_one, h]
  simp
theorem assetsOf_len (x : Fl) : (assetsOf x).length = x.assets.length := by simp [assetsOf]
theorem assetsOf_get {x : Fl} {j : Nat} {X : ByteArray} (h : x.assets[j]? = some X) : (assetsOf x)[j]? = some (X, x.path, x.addr) := by simp [assetsOf, h]
theorem assetsAll_le {F : List Fl} (h : ∀ x ∈ F, x.assets.length ≤ 1048576) : (assetsAll F).length ≤ F.length * 1048576 := by
  induction F with
  | nil => simp [assetsAll]
  | cons x r ih =>
    have h1 := ih fun y hy => h y (List.mem_cons_of_mem _ hy)
    have h2 := h x (List.mem_cons_self ..)
    have e : assetsAll (x :: r) = assetsOf x ++ assetsAll r := by simp [assetsAll]
    rw [e, List.length_append, assetsOf_len, List.length_cons, Nat.succ_mul]
    omega

def nsB : ByteArray := ⟨#[104, 116, 116, 112, 58, 47, 47, 115, 99, 104, 101, 109, 97, 115, 46, 109, 105, 99, 114, 111, 115, 111, 102, 116, 46, 99, 111, 109, 47, 100, 101, 118, 101, 108, 111, 112, 101, 114, 47, 118, 115, 120, 45, 115, 99, 104, 101, 109, 97, 47, 50, 48, 49, 49]⟩
def verB : ByteArray := ⟨#[50, 46, 48, 46, 48]⟩
def langB : ByteArray := ⟨#[101, 110, 45, 85, 83]⟩

/-- THE MANIFEST IS MADE. -/
def Made (e : E) (w : World) (x : Ending) (w' : World) : Prop :=
  ∃ (H : Nat) (dp pp bp vI vA : Value), x = .returned (.pointer (some ⟨H, 0, none⟩)) ∧ MSt w w' H (manCells e nsB verB langB dp pp bp vI vA) ∧ Desc (H + 1) w' dp e.s4 ∧ Props (H + 1) w' pp e.P ∧ Bads (H + 1) w' bp e.B ∧ PairsA (H + 1) w' vI e.Tg ∧ AstsA (H + 1) w' vA (assetsAll e.F)
end Go.Proofs.Qxb6616617a.W
