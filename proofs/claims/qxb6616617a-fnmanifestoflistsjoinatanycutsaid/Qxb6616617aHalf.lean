/-
  THE ARGUMENT CUT IN TWO: each list's first k elements, and the others.
-/
import Derived.Test.Qxb6616617aShow
import Derived.Test.Qxb6616617aJoin
namespace Go.Proofs.Qxb6616617a.W
open Go.ChangeShapes Go.WideShapes Go.ChangeAt Go.RowKit
set_option linter.unusedVariables false

/-- Where the second part begins. -/
def tailAt (a : Option Addr) (k c s : Nat) : Option Addr := if c = k then a else a.map (·.add (k * s))

theorem Head.cap {w : World} {v : Value} {n b o : Nat} (h : Head w v n b o) : ∃ a c, v = .slice a n c := by
  obtain ⟨a, c, h1, _⟩ := h
  exact ⟨a, c, h1⟩

theorem Head.left {w : World} {a : Option Addr} {n c b o k : Nat} (h : Head w (.slice a n c) n b o) (hk : k ≤ n) : Head w (.slice a k c) k b o := by
  obtain ⟨a', c', h1, h2, h3⟩ := h
  injection h1 with e1 _ e3
  subst e1 e3
  exact ⟨a, c, rfl, fun h => h2 (by omega), fun h => ⟨by have := (h3 h).1; omega, (h3 h).2⟩⟩

theorem Head.right {w : World} {a : Option Addr} {n c b o k : Nat} (s : Nat) (h : Head w (.slice a n c) n b o) (hk : k ≤ n) (hc : n ≤ c) : Head w (.slice (tailAt a k c s) (n - k) (c - k)) (n - k) b (o + k * s) := by
  obtain ⟨a', c', h1, h2, h3⟩ := h
  injection h1 with e1 _ e3
  subst e1 e3
  refine ⟨_, _, rfl, fun h => ?_, fun h => ?_⟩
  · obtain ⟨rfl, hb⟩ := h2 (by omega)
    refine ⟨?_, hb⟩
    unfold tailAt
    rw [if_neg (by omega)]
    simp only [Option.map_some, Addr.add]
    split <;> simp_all
  · unfold tailAt at h
    split at h
    · have := h3 h; omega
    · have := h3 (by simpa using h); omega

theorem get_take {α : Type} {l : List α} {k j : Nat} {x : α} (h : (l.take k)[j]? = some x) : j < k ∧ l[j]? = some x := by
  have hj := len_of h
  simp at hj
  rw [List.getElem?_take_of_lt (by omega)] at h
  exact ⟨by omega, h⟩
theorem get_drop {α : Type} {l : List α} {k j : Nat} {x : α} (h : (l.drop k)[j]? = some x) : l[k + j]? = some x := by
  rwa [List.getElem?_drop] at h

theorem off_mul (o k j s i : Nat) : o + k * s + j * s + i = o + (k + j) * s + i := by rw [Nat.add_mul]; omega

theorem Texts.left {w : World} {a : Option Addr} {c k : Nat} {Xs : List ByteArray} (h : Texts w (.slice a Xs.length c) Xs) (hk : k ≤ Xs.length) : Texts w (.slice a k c) (Xs.take k) := by
  obtain ⟨b, o, hh, hc⟩ := h
  have e : (Xs.take k).length = k := by simp; omega
  exact ⟨b, o, by rw [e]; exact hh.left hk, fun j X hX => hc j X (get_take hX).2⟩
theorem Texts.right {w : World} {a : Option Addr} {c k : Nat} {Xs : List ByteArray} (h : Texts w (.slice a Xs.length c) Xs) (hk : k ≤ Xs.length) (hcap : Xs.length ≤ c) : Texts w (.slice (tailAt a k c 1) (Xs.length - k) (c - k)) (Xs.drop k) := by
  obtain ⟨b, o, hh, hc⟩ := h
  have e : (Xs.drop k).length = Xs.length - k := by simp
  refine ⟨b, o + k * 1, by rw [e]; exact hh.right 1 hk hcap, fun j X hX => ?_⟩
  have := hc (k + j) X (get_drop hX)
  rw [show o + k * 1 + j = o + (k + j) by omega]
  exact this
theorem Pairs.left {w : World} {a : Option Addr} {c k : Nat} {Xs : List (ByteArray × ByteArray)} (h : Pairs w (.slice a Xs.length c) Xs) (hk : k ≤ Xs.length) : Pairs w (.slice a k c) (Xs.take k) := by
  obtain ⟨b, o, hh, hc⟩ := h
  have e : (Xs.take k).length = k := by simp; omega
  exact ⟨b, o, by rw [e]; exact hh.left hk, fun j X hX => hc j X (get_take hX).2⟩
theorem Pairs.right {w : World} {a : Option Addr} {c k : Nat} {Xs : List (ByteArray × ByteArray)} (h : Pairs w (.slice a Xs.length c) Xs) (hk : k ≤ Xs.length) (hcap : Xs.length ≤ c) : Pairs w (.slice (tailAt a k c 2) (Xs.length - k) (c - k)) (Xs.drop k) := by
  obtain ⟨b, o, hh, hc⟩ := h
  have e : (Xs.drop k).length = Xs.length - k := by simp
  refine ⟨b, o + k * 2, by rw [e]; exact hh.right 2 hk hcap, fun j X hX => ?_⟩
  have := hc (k + j) X (get_drop hX)
  rw [show o + k * 2 + j * 2 = o + (k + j) * 2 by omega]
  exact this
theorem Trips.left {w : World} {a : Option Addr} {c k : Nat} {Xs : List (ByteArray × ByteArray × ByteArray)} (h : Trips w (.slice a Xs.length c) Xs) (hk : k ≤ Xs.length) : Trips w (.slice a k c) (Xs.take k) := by
  obtain ⟨b, o, hh, hc⟩ := h
  have e : (Xs.take k).length = k := by simp; omega
  exact ⟨b, o, by rw [e]; exact hh.left hk, fun j X hX => hc j X (get_take hX).2⟩
theorem Trips.right {w : World} {a : Option Addr} {c k : Nat} {Xs : List (ByteArray × ByteArray × ByteArray)} (h : Trips w (.slice a Xs.length c) Xs) (hk : k ≤ Xs.length) (hcap : Xs.length ≤ c) : Trips w (.slice (tailAt a k c 3) (Xs.length - k) (c - k)) (Xs.drop k) := by
  obtain ⟨b, o, hh, hc⟩ := h
  have e : (Xs.drop k).length = Xs.length - k := by simp
  refine ⟨b, o + k * 3, by rw [e]; exact hh.right 3 hk hcap, fun j X hX => ?_⟩
  have := hc (k + j) X (get_drop hX)
  rw [show o + k * 3 + j * 3 = o + (k + j) * 3 by omega]
  exact this
theorem Fils.left {w : World} {a : Option Addr} {c k : Nat} {Xs : List Fl} (h : Fils w (.slice a Xs.length c) Xs) (hk : k ≤ Xs.length) : Fils w (.slice a k c) (Xs.take k) := by
  obtain ⟨b, o, hh, hc⟩ := h
  have e : (Xs.take k).length = k := by simp; omega
  exact ⟨b, o, by rw [e]; exact hh.left hk, fun j X hX => hc j X (get_take hX).2⟩
theorem Fils.right {w : World} {a : Option Addr} {c k : Nat} {Xs : List Fl} (h : Fils w (.slice a Xs.length c) Xs) (hk : k ≤ Xs.length) (hcap : Xs.length ≤ c) : Fils w (.slice (tailAt a k c 5) (Xs.length - k) (c - k)) (Xs.drop k) := by
  obtain ⟨b, o, hh, hc⟩ := h
  have e : (Xs.drop k).length = Xs.length - k := by simp
  refine ⟨b, o + k * 5, by rw [e]; exact hh.right 5 hk hcap, fun j X hX => ?_⟩
  have := hc (k + j) X (get_drop hX)
  rw [show o + k * 5 + j * 5 = o + (k + j) * 5 by omega]
  exact this

/-! ### the two halves -/
structure Ks where
  T : Nat
  G : Nat
  C : Nat
  P : Nat
  B : Nat
  Tg : Nat
  F : Nat

/-- The argument's seven cut lists as slices. -/
structure Sl where
  a7 : Option Addr
  c7 : Nat
  a8 : Option Addr
  c8 : Nat
  a9 : Option Addr
  c9 : Nat
  a10 : Option Addr
  c10 : Nat
  a11 : Option Addr
  c11 : Nat
  a12 : Option Addr
  c12 : Nat
  a15 : Option Addr
  c15 : Nat

structure Sl.Of (s : Sl) (e : E) : Prop where
  e7 : e.v7 = .slice s.a7 e.T.length s.c7
  e8 : e.v8 = .slice s.a8 e.G.length s.c8
  e9 : e.v9 = .slice s.a9 e.P.length s.c9
  e10 : e.v10 = .slice s.a10 e.B.length s.c10
  e11 : e.v11 = .slice s.a11 e.C.length s.c11
  e12 : e.v12 = .slice s.a12 e.Tg.length s.c12
  e15 : e.v15 = .slice s.a15 e.F.length s.c15
  l7 : e.T.length ≤ s.c7
  l8 : e.G.length ≤ s.c8
  l9 : e.P.length ≤ s.c9
  l10 : e.B.length ≤ s.c10
  l11 : e.C.length ≤ s.c11
  l12 : e.Tg.length ≤ s.c12
  l15 : e.F.length ≤ s.c15

structure Ks.Le (k : Ks) (e : E) : Prop where
  T : k.T ≤ e.T.length
  G : k.G ≤ e.G.length
  C : k.C ≤ e.C.length
  P : k.P ≤ e.P.length
  B : k.B ≤ e.B.length
  Tg : k.Tg ≤ e.Tg.length
  F : k.F ≤ e.F.length

def E.left (e : E) (s : Sl) (k : Ks) : E :=
  { e with v7 := .slice s.a7 k.T s.c7, v8 := .slice s.a8 k.G s.c8, v9 := .slice s.a9 k.P s.c9, v10 := .slice s.a10 k.B s.c10, v11 := .slice s.a11 k.C s.c11, v12 := .slice s.a12 k.Tg s.c12, v15 := .slice s.a15 k.F s.c15, T := e.T.take k.T, G := e.G.take k.G, C := e.C.take k.C, P := e.P.take k.P, B := e.B.take k.B, Tg := e.Tg.take k.Tg, F := e.F.take k.F }
def E.right (e : E) (s : Sl) (k : Ks) : E :=
  { e with v7 := .slice (tailAt s.a7 k.T s.c7 1) (e.T.length - k.T) (s.c7 - k.T), v8 := .slice (tailAt s.a8 k.G s.c8 1) (e.G.length - k.G) (s.c8 - k.G), v9 := .slice (tailAt s.a9 k.P s.c9 2) (e.P.length - k.P) (s.c9 - k.P), v10 := .slice (tailAt s.a10 k.B s.c10 3) (e.B.length - k.B) (s.c10 - k.B), v11 := .slice (tailAt s.a11 k.C s.c11 1) (e.C.length - k.C) (s.c11 - k.C), v12 := .slice (tailAt s.a12 k.Tg s.c12 2) (e.Tg.length - k.Tg) (s.c12 - k.Tg), v15 := .slice (tailAt s.a15 k.F s.c15 5) (e.F.length - k.F) (s.c15 - k.F), T := e.T.drop k.T, G := e.G.drop k.G, C := e.C.drop k.C, P := e.P.drop k.P, B := e.B.drop k.B, Tg := e.Tg.drop k.Tg, F := e.F.drop k.F }

theorem E.left_lies {e : E} {s : Sl} {k : Ks} {w : World} (h : e.Lies w) (hs : s.Of e) (hk : k.Le e) : (e.left s k).Lies w := by
  obtain ⟨hT, hG, hP, hB, hC, hTg, hI, hM, hF⟩ := h
  rw [hs.e7] at hT
  rw [hs.e8] at hG
  rw [hs.e9] at hP
  rw [hs.e10] at hB
  rw [hs.e11] at hC
  rw [hs.e12] at hTg
  rw [hs.e15] at hF
  exact ⟨hT.left hk.T, hG.left hk.G, hP.left hk.P, hB.left hk.B, hC.left hk.C, hTg.left hk.Tg, hI, hM, hF.left hk.F⟩
theorem E.right_lies {e : E} {s : Sl} {k : Ks} {w : World} (h : e.Lies w) (hs : s.Of e) (hk : k.Le e) : (e.right s k).Lies w := by
  obtain ⟨hT, hG, hP, hB, hC, hTg, hI, hM, hF⟩ := h
  rw [hs.e7] at hT
  rw [hs.e8] at hG
  rw [hs.e9] at hP
  rw [hs.e10] at hB
  rw [hs.e11] at hC
  rw [hs.e12] at hTg
  rw [hs.e15] at hF
  exact ⟨hT.right hk.T hs.l7, hG.right hk.G hs.l8, hP.right hk.P hs.l9, hB.right hk.B hs.l10, hC.right hk.C hs.l11, hTg.right hk.Tg hs.l12, hI, hM, hF.right hk.F hs.l15⟩

theorem le_take {α : Type} (l : List α) (k m : Nat) (h : l.length ≤ m) : (l.take k).length ≤ m := by simp; omega
theorem le_drop {α : Type} (l : List α) (k m : Nat) (h : l.length ≤ m) : (l.drop k).length ≤ m := by simp; omega

theorem E.left_wf {e : E} {s : Sl} {k : Ks} (h : e.Wf) : (e.left s k).Wf :=
  ⟨h.s0, h.s1, h.s2, h.s3, h.s4, h.s5, h.s6, ⟨le_take _ _ _ h.T.1, fun X hX => h.T.2 X (List.mem_of_mem_take hX)⟩, ⟨le_take _ _ _ h.G.1, fun X hX => h.G.2 X (List.mem_of_mem_take hX)⟩, ⟨le_take _ _ _ h.C.1, fun X hX => h.C.2 X (List.mem_of_mem_take hX)⟩, h.M,
    ⟨le_take _ _ _ h.P.1, fun X hX => h.P.2 X (List.mem_of_mem_take hX)⟩, ⟨le_take _ _ _ h.Tg.1, fun X hX => h.Tg.2 X (List.mem_of_mem_take hX)⟩, ⟨le_take _ _ _ h.B.1, fun X hX => h.B.2 X (List.mem_of_mem_take hX)⟩, h.I, ⟨le_take _ _ _ h.F.1, fun X hX => h.F.2 X (List.mem_of_mem_take hX)⟩⟩
theorem E.right_wf {e : E} {s : Sl} {k : Ks} (h : e.Wf) : (e.right s k).Wf :=
  ⟨h.s0, h.s1, h.s2, h.s3, h.s4, h.s5, h.s6, ⟨le_drop _ _ _ h.T.1, fun X hX => h.T.2 X (List.mem_of_mem_drop hX)⟩, ⟨le_drop _ _ _ h.G.1, fun X hX => h.G.2 X (List.mem_of_mem_drop hX)⟩, ⟨le_drop _ _ _ h.C.1, fun X hX => h.C.2 X (List.mem_of_mem_drop hX)⟩, h.M,
    ⟨le_drop _ _ _ h.P.1, fun X hX => h.P.2 X (List.mem_of_mem_drop hX)⟩, ⟨le_drop _ _ _ h.Tg.1, fun X hX => h.Tg.2 X (List.mem_of_mem_drop hX)⟩, ⟨le_drop _ _ _ h.B.1, fun X hX => h.B.2 X (List.mem_of_mem_drop hX)⟩, h.I, ⟨le_drop _ _ _ h.F.1, fun X hX => h.F.2 X (List.mem_of_mem_drop hX)⟩⟩
theorem E.left_small {e : E} {s : Sl} {k : Ks} (h : e.Small) : (e.left s k).Small :=
  ⟨⟨le_take _ _ _ h.T.1, fun X hX => h.T.2 X (List.mem_of_mem_take hX)⟩, ⟨le_take _ _ _ h.G.1, fun X hX => h.G.2 X (List.mem_of_mem_take hX)⟩, ⟨le_take _ _ _ h.C.1, fun X hX => h.C.2 X (List.mem_of_mem_take hX)⟩,
    le_take _ _ _ h.P, le_take _ _ _ h.Tg, le_take _ _ _ h.B, h.I, ⟨le_take _ _ _ h.F.1, fun X hX => h.F.2 X (List.mem_of_mem_take hX)⟩⟩
theorem E.right_small {e : E} {s : Sl} {k : Ks} (h : e.Small) : (e.right s k).Small :=
  ⟨⟨le_drop _ _ _ h.T.1, fun X hX => h.T.2 X (List.mem_of_mem_drop hX)⟩, ⟨le_drop _ _ _ h.G.1, fun X hX => h.G.2 X (List.mem_of_mem_drop hX)⟩, ⟨le_drop _ _ _ h.C.1, fun X hX => h.C.2 X (List.mem_of_mem_drop hX)⟩,
    le_drop _ _ _ h.P, le_drop _ _ _ h.Tg, le_drop _ _ _ h.B, h.I, ⟨le_drop _ _ _ h.F.1, fun X hX => h.F.2 X (List.mem_of_mem_drop hX)⟩⟩
theorem cap_of {a : Option Addr} {n c : Nat} (h : n ≤ c) : Cap (.slice a n c) := fun a' n' c' e => by injection e with _ h1 h2; omega
theorem E.left_caps {e : E} {s : Sl} {k : Ks} (hs : s.Of e) (hk : k.Le e) : Cap (e.left s k).v7 ∧ Cap (e.left s k).v8 ∧ Cap (e.left s k).v11 :=
  ⟨cap_of (Nat.le_trans hk.T hs.l7), cap_of (Nat.le_trans hk.G hs.l8), cap_of (Nat.le_trans hk.C hs.l11)⟩
theorem E.right_caps {e : E} {s : Sl} {k : Ks} (hs : s.Of e) (hk : k.Le e) : Cap (e.right s k).v7 ∧ Cap (e.right s k).v8 ∧ Cap (e.right s k).v11 :=
  ⟨cap_of (by have := hs.l7; omega), cap_of (by have := hs.l8; omega), cap_of (by have := hs.l11; omega)⟩

/-- Slicing, as the walk runs it. -/
theorem run_left {t : TypeId} (ht : Try.prog.underlying t = some (.slice (Try.prog.elem t))) {s : Nat} (hs : ∀ w, (sizeOf (Try.prog.elem t)).run Try.prog w = .ok s w) (a : Option Addr) (n c k : Nat) (hk : k ≤ n) (hc : n ≤ c) (w : World) :
    (Instr.slice t (.slice a n c) none (some (.int .i64 (k : Int))) none).run Try.prog w = .ok (.slice a k c) w := by
  rw [run_slice_h w t a n c ht .i64 k (by omega) (by omega), hs]
  show Result.ok (sliced a 0 (k : Int).toNat c s) w = _
  have e : (a.map fun x => x.add (0 * s)) = a := by cases a <;> simp [Addr.add]
  simp [sliced]
  intro h
  cases a <;> simp [Addr.add]
theorem run_right {t : TypeId} (ht : Try.prog.underlying t = some (.slice (Try.prog.elem t))) {s : Nat} (hs : ∀ w, (sizeOf (Try.prog.elem t)).run Try.prog w = .ok s w) (a : Option Addr) (n c k : Nat) (hk : k ≤ n) (hc : n ≤ c) (w : World) :
    (Instr.slice t (.slice a n c) (some (.int .i64 (k : Int))) none none).run Try.prog w = .ok (.slice (tailAt a k c s) (n - k) (c - k)) w := by
  rw [run_slice_l w t a n c ht .i64 k (by omega) (by omega), hs]
  show Result.ok (sliced a (k : Int).toNat n c s) w = _
  simp [sliced, tailAt]

/-- While the two copies of the argument are cut: blocks A and B. -/
structure St8 (w1 wr : World) (A B : Nat) (csL csR : Array Value) : Prop where
  below : Below w1.heap.size w1 wr
  lo : w1.heap.size ≤ A
  ab : A < B
  lt : B < wr.heap.size
  left : wr.heap[A]? = some (.cells csL 70 (0, 0))
  right : wr.heap[B]? = some (.cells csR 70 (0, 0))

theorem St8.start (w1 : World) (cs : Array Value) : St8 w1 ((w1.alloc (.cells cs 70)).alloc (.cells cs 70)) w1.heap.size (w1.heap.size + 1) cs cs := by
  refine ⟨((Below.refl _ _).alloc (Nat.le_refl _) _).alloc (by simp) _, Nat.le_refl _, by omega, by simp, ?_, ?_⟩
  · show ((w1.heap.push (.cells cs 70 (0, 0))).push (.cells cs 70 (0, 0)))[w1.heap.size]? = _
    rw [Array.getElem?_push_lt (by simp), ← Array.getElem?_eq_getElem, Array.getElem?_push_size]
  · show ((w1.heap.push (.cells cs 70 (0, 0))).push (.cells cs 70 (0, 0)))[w1.heap.size + 1]? = _
    have e : w1.heap.size + 1 = (w1.heap.push (.cells cs 70 (0, 0))).size := by simp
    rw [e, Array.getElem?_push_size]
theorem St8.cellA {w1 wr : World} {A B : Nat} {csL csR : Array Value} (h : St8 w1 wr A B csL csR) (i : Nat) : wr.cell? ⟨A, i, none⟩ = csL[i]? := cell_of_row _ _ _ _ _ _ h.left
theorem St8.cellB {w1 wr : World} {A B : Nat} {csL csR : Array Value} (h : St8 w1 wr A B csL csR) (i : Nat) : wr.cell? ⟨B, i, none⟩ = csR[i]? := cell_of_row _ _ _ _ _ _ h.right
theorem St8.freeA {w1 wr : World} {A B : Nat} {csL csR : Array Value} (h : St8 w1 wr A B csL csR) (i : Nat) : wr.frozen? ⟨A, i, none⟩ = false := by simp [World.frozen?, h.left]
theorem St8.freeB {w1 wr : World} {A B : Nat} {csL csR : Array Value} (h : St8 w1 wr A B csL csR) (i : Nat) : wr.frozen? ⟨B, i, none⟩ = false := by simp [World.frozen?, h.right]
theorem St8.both {w1 wr : World} {A B : Nat} {csL csR : Array Value} (h : St8 w1 wr A B csL csR) (i : Nat) (u v : Value) : St8 w1 ((wr.setCell ⟨A, i, none⟩ u).setCell ⟨B, i, none⟩ v) A B (csL.setIfInBounds i u) (csR.setIfInBounds i v) := by
  have hab := h.ab
  have hlo := h.lo
  refine ⟨(h.below.setCell (by exact hlo) u).setCell (by show w1.heap.size ≤ B; omega) v, hlo, hab, by have := h.lt; simpa [World.setCell] using this, ?_, ?_⟩
  · rw [Below.heap_setCell _ _ _ _ (by show A ≠ B; omega)]
    simp [World.setCell, Array.getElem?_modify, h.left]
  · have e : (wr.setCell ⟨A, i, none⟩ u).heap[B]? = some (.cells csR 70 (0, 0)) := by
      rw [Below.heap_setCell _ _ _ _ (by show B ≠ A; omega)]
      exact h.right
    generalize wr.setCell ⟨A, i, none⟩ u = wx at e
    simp [World.setCell, Array.getElem?_modify, e]
theorem St8.next {w1 wr wl : World} {A B : Nat} {csL csR : Array Value} (h : St8 w1 wr A B csL csR) (hb : Below wr.heap.size wr wl) : St8 w1 wl A B csL csR := by
  have h1 := h.lo
  have h2 := h.ab
  have h3 := h.lt
  exact ⟨h.below.trans (hb.mono (by omega)), h1, h2, Nat.lt_of_lt_of_le h3 hb.size, (hb.block _ (by omega)).trans h.left, (hb.block _ h3).trans h.right⟩

theorem Held.below {e : E} {N : Nat} {w w' : World} {vP vB vT vF : Value} (h : Held e N w vP vB vT vF) (hb : Below w.heap.size w w') : Held e N w' vP vB vT vF := by
  have hN : N < w.heap.size := World.block_lt_of_cell? w _ h.at0
  have c : ∀ i, w'.cell? ⟨N, i, none⟩ = w.cell? ⟨N, i, none⟩ := fun i => hb.cell (p := ⟨N, i, none⟩) hN
  exact ⟨(c 0).trans h.at0, (c 1).trans h.at1, (c 2).trans h.at2, (c 3).trans h.at3, (c 4).trans h.at4, (c 5).trans h.at5, (c 6).trans h.at6, (c 7).trans h.at7, (c 8).trans h.at8, (c 9).trans h.at9, (c 10).trans h.at10, (c 11).trans h.at11, (c 12).trans h.at12, (c 15).trans h.at15,
    h.T.below hb, h.G.below hb, h.C.below hb, h.capT, h.capG, h.capC, h.P.below hb, h.B.below hb, h.Tg.below hb, h.F.above (Above.below hb), fun x hx => (h.A x hx).below hb⟩

/-- A manifest that is made, in a later world. -/
structure Man (e : E) (H : Nat) (dp pp bp vI vA : Value) (w : World) : Prop where
  lt : H < w.heap.size
  cell : ∀ i, w.cell? ⟨H, i, none⟩ = (manCells e nsB verB langB dp pp bp vI vA)[i]?
  D : Desc (H + 1) w dp e.s4
  P : Props (H + 1) w pp e.P
  B : Bads (H + 1) w bp e.B
  I : PairsA (H + 1) w vI e.Tg
  A : AstsA (H + 1) w vA (assetsAll e.F)
theorem Man.of {e : E} {H : Nat} {w w' : World} {dp pp bp vI vA : Value} (hm : MSt w w' H (manCells e nsB verB langB dp pp bp vI vA)) (hq : Desc (H + 1) w' dp e.s4 ∧ Props (H + 1) w' pp e.P ∧ Bads (H + 1) w' bp e.B ∧ PairsA (H + 1) w' vI e.Tg ∧ AstsA (H + 1) w' vA (assetsAll e.F)) : Man e H dp pp bp vI vA w' :=
  ⟨hm.lt, fun i => hm.cell i, hq.1, hq.2.1, hq.2.2.1, hq.2.2.2.1, hq.2.2.2.2⟩
theorem Man.below {e : E} {H : Nat} {w w' : World} {dp pp bp vI vA : Value} (h : Man e H dp pp bp vI vA w) (hb : Below w.heap.size w w') : Man e H dp pp bp vI vA w' := by
  have ha : Above (H + 1) w w' := Above.below hb
  exact ⟨Nat.lt_of_lt_of_le h.lt hb.size, fun i => (hb.cell (p := ⟨H, i, none⟩) h.lt).trans (h.cell i), h.D.above ha, h.P.above ha, h.B.above ha, h.I.above ha, h.A.above ha⟩

theorem glue_size (Xs : List ByteArray) (c : UInt8) (hn : Xs.length ≤ 1048576) (h : ∀ X ∈ Xs, X.size ≤ 1048576) : (glue Xs c).size ≤ 140737488355328 := by
  have h1 := glue_le Xs c hn h
  show (Lib.join (Xs.map (·.data.toList)) [c]).toArray.size ≤ _
  simpa using h1
end Go.Proofs.Qxb6616617a.W
