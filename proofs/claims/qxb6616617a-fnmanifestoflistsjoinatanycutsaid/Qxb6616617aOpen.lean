/-
  THE LAW's ARGUMENT AS IT CAME IN, OPENED: from the reading of the struct to how it lies.
-/
import Derived.Test.Qxb6616617aShapes
import Derived.Test.Qxb6616617aJoin
import Derived.Deep.Slices
import Derived.OpenShut
namespace Go.Proofs.Qxb6616617a.W
open Go Go.ChangeShapes Go.WideShapes Go.ChangeAt Go.RowKit
set_option linter.unusedVariables false

theorem cells4 : Try.prog.cellsOf 4 = 1 := by kernel_rfl
theorem cells9 : Try.prog.cellsOf 9 = 1 := by kernel_rfl
theorem cells25 : Try.prog.cellsOf 25 = 1 := by kernel_rfl
theorem cells58 : Try.prog.cellsOf 58 = 1 := by kernel_rfl
theorem cells64 : Try.prog.cellsOf 64 = 1 := by kernel_rfl
theorem cells65 : Try.prog.cellsOf 65 = 1 := by kernel_rfl
theorem cells66 : Try.prog.cellsOf 66 = 1 := by kernel_rfl
theorem cells67 : Try.prog.cellsOf 67 = 1 := by kernel_rfl
theorem cells68 : Try.prog.cellsOf 68 = 1 := by kernel_rfl
theorem cells70 : Try.prog.cellsOf 70 = 16 := by kernel_rfl
theorem cells107 : Try.prog.cellsOf 107 = 2 := by kernel_rfl
theorem cells114 : Try.prog.cellsOf 114 = 3 := by kernel_rfl
theorem cells118 : Try.prog.cellsOf 118 = 2 := by kernel_rfl
theorem cells120 : Try.prog.cellsOf 120 = 5 := by kernel_rfl
theorem cells127 : Try.prog.cellsOf 127 = 1 := by kernel_rfl
theorem cells129 : Try.prog.cellsOf 129 = 2 := by kernel_rfl
theorem cells131 : Try.prog.cellsOf 131 = 4 := by kernel_rfl

theorem cell_lt' {w : World} {a : Addr} {v : Value} (h : w.cell? a = some v) : a.block < w.heap.size := World.block_lt_of_cell? w _ h

theorem add_n (b o n : Nat) : (⟨b, o, none⟩ : Addr).add n = ⟨b, o + n, none⟩ := by
  unfold Addr.add
  split <;> simp_all

theorem len2 {α : Type} {l : List α} (h : l.length = 2) : ∃ a0 a1, l = [a0, a1] := by
  match l, h with
  | [a0, a1], _ => exact ⟨a0, a1, rfl⟩
theorem len3 {α : Type} {l : List α} (h : l.length = 3) : ∃ a0 a1 a2, l = [a0, a1, a2] := by
  match l, h with
  | [a0, a1, a2], _ => exact ⟨a0, a1, a2, rfl⟩
theorem len4 {α : Type} {l : List α} (h : l.length = 4) : ∃ a0 a1 a2 a3, l = [a0, a1, a2, a3] := by
  match l, h with
  | [a0, a1, a2, a3], _ => exact ⟨a0, a1, a2, a3, rfl⟩
theorem len5 {α : Type} {l : List α} (h : l.length = 5) : ∃ a0 a1 a2 a3 a4, l = [a0, a1, a2, a3, a4] := by
  match l, h with
  | [a0, a1, a2, a3, a4], _ => exact ⟨a0, a1, a2, a3, a4, rfl⟩
theorem len16 {α : Type} {l : List α} (h : l.length = 16) : ∃ a0 a1 a2 a3 a4 a5 a6 a7 a8 a9 a10 a11 a12 a13 a14 a15, l = [a0, a1, a2, a3, a4, a5, a6, a7, a8, a9, a10, a11, a12, a13, a14, a15] := by
  match l, h with
  | [a0, a1, a2, a3, a4, a5, a6, a7, a8, a9, a10, a11, a12, a13, a14, a15], _ => exact ⟨a0, a1, a2, a3, a4, a5, a6, a7, a8, a9, a10, a11, a12, a13, a14, a15, rfl⟩

section
variable {H : Type} {enc : TypeId × Value → H} {w : World}
local notation "TR" => DataW.trod enc Try.prog w 0 (fun _ => true) true

theorem list_upto {α : Type} (R : Nat → α → Prop) (n : Nat) (h : ∀ i, i < n → ∃ y, R i y) : ∃ Ys : List α, Ys.length = n ∧ ∀ (j : Nat) y, Ys[j]? = some y → R j y := by
  induction n with
  | zero => exact ⟨[], rfl, fun j y h => by simp at h⟩
  | succ n ih =>
    obtain ⟨Ys, hl, hY⟩ := ih fun i hi => h i (by omega)
    obtain ⟨y, hy⟩ := h n (by omega)
    refine ⟨Ys ++ [y], by simp [hl], fun j z hz => ?_⟩
    by_cases hj : j < n
    · rw [List.getElem?_append_left (by omega)] at hz
      exact hY j z hz
    · have := len_of hz
      simp [hl] at this
      have e : j = n := by omega
      subst e
      rw [List.getElem?_append_right (by omega), hl] at hz
      simp at hz
      subst hz
      exact hy

/-- A list that came in, whatever its elements. -/
theorem open_rows {α : Type} {t e : TypeId} {c fuel : Nat} {v : Value} {x : DataW H × List MemPlace} (R : List Value → α → Prop) (ht : Try.prog.underlying t = some (.slice e)) (hc : Try.prog.cellsOf e = c) (hc0 : 0 < c)
    (hR : ∀ n cs' x', cs'.length = c → TR n e cs' = some x' → ∃ y, R cs' y) (h : TR fuel t [v] = some x) :
    ∃ (Ys : List α) (b o : Nat), Head w v Ys.length b o ∧ Cap v ∧ Ys.length ≤ maxLen ∧ ∀ (j : Nat) y, Ys[j]? = some y → ∃ cs', cs'.length = c ∧ R cs' y ∧ ∀ i, i < c → w.cell? ⟨b, o + j * c + i, none⟩ = cs'[i]? := by
  rcases Go.Deep.open_slice ht h with ⟨hv, _⟩ | ⟨a, len, cap, m, n, D, Pl, hv, _, hl, hm, hmm, _, hx⟩
  · simp at hv
    subst hv
    exact ⟨[], 0, 0, ⟨none, 0, rfl, fun h => absurd h (by simp), fun _ => ⟨rfl, rfl⟩⟩, fun a n c h => by cases h; exact Nat.le_refl _, by simp, fun j y h => by simp at h⟩
  · simp at hv
    subst hv
    simp only [if_true] at hmm
    subst hmm
    rw [hc] at hx
    obtain ⟨b, o, spot⟩ := a
    have hs : 0 < len → spot = none ∧ b < w.heap.size := fun h0 => by
      obtain ⟨cs', h1, _⟩ := hx 0 (by omega)
      obtain ⟨_, h2, h3⟩ := World.cells?_some h1
      have h4 := h3 0 hc0
      rw [List.getElem?_eq_getElem (by omega)] at h4
      simp [Addr.add] at h4
      exact ⟨World.cell?_spot h4, cell_lt' h4⟩
    obtain ⟨Ys, hlen, hY⟩ := list_upto (fun j y => ∃ cs', cs'.length = c ∧ R cs' y ∧ ∀ i, i < c → w.cell? ⟨b, o + j * c + i, none⟩ = cs'[i]?) len (fun i hi => by
      obtain ⟨cs', h1, h2⟩ := hx i (by omega)
      obtain ⟨_, h3, h4⟩ := World.cells?_some h1
      obtain ⟨y, hy⟩ := hR _ _ _ h3 h2
      refine ⟨y, cs', h3, hy, fun k hk => ?_⟩
      rw [← h4 k hk]
      obtain ⟨rfl, _⟩ := hs (by omega)
      rw [add_n, add_n])
    refine ⟨Ys, b, o, ⟨_, _, by rw [hlen], fun h0 => ?_, fun h0 => by cases h0⟩, fun a n c h => by injection h with _ h1 h2; omega, by omega, hY⟩
    rw [hlen] at h0
    obtain ⟨rfl, h5⟩ := hs h0
    exact ⟨rfl, h5⟩

theorem open_str {n : Nat} {cs : List Value} {x : DataW H × List MemPlace} (h : TR n 9 cs = some x) : ∃ s : ByteArray, cs = [.string s] ∧ s.size ≤ maxLen := by
  obtain ⟨s, h1, _, h2⟩ := DataW.trod_string Try.underlying9 h
  exact ⟨s, h1, h2⟩

theorem open_texts {fuel : Nat} {v : Value} {x : DataW H × List MemPlace} (h : TR fuel 25 [v] = some x) : ∃ Xs, Texts w v Xs ∧ Cap v ∧ Xs.length ≤ maxLen ∧ ∀ X ∈ Xs, X.size ≤ maxLen := by
  obtain ⟨Ys, b, o, h1, h2, h3, h4⟩ := open_rows (fun cs' (y : ByteArray) => cs' = [.string y] ∧ y.size ≤ maxLen) Try.underlying25 cells9 (by omega) (fun n cs' x' _ hx => open_str hx) h
  refine ⟨Ys, ⟨b, o, h1, fun j X hX => ?_⟩, h2, h3, fun X hX => ?_⟩
  · obtain ⟨cs', _, ⟨rfl, _⟩, h5⟩ := h4 j X hX
    have := h5 0 (by omega)
    simpa using this
  · obtain ⟨j, hj, e⟩ := List.getElem_of_mem hX
    obtain ⟨_, _, ⟨_, h5⟩, _⟩ := h4 j X (by rw [List.getElem?_eq_getElem hj, e])
    exact h5

theorem mem_at {α : Type} {P : α → Prop} {Ys : List α} (h : ∀ (j : Nat) y, Ys[j]? = some y → P y) : ∀ y ∈ Ys, P y := fun y hy => by
  obtain ⟨j, hj, e⟩ := List.getElem_of_mem hy
  exact h j y (by rw [List.getElem?_eq_getElem hj, e])

theorem open_pair {f0 f1 : Field} {e : TypeId} (he : Try.prog.underlying e = some (.struct #[f0, f1])) (o0 : f0.offset = 0) (o1 : f1.offset = 1) (t0 : f0.type = 9) (t1 : f1.type = 9) {n : Nat} {cs : List Value} {x : DataW H × List MemPlace} (hl : cs.length = 2) (h : TR n e cs = some x) :
    ∃ y : ByteArray × ByteArray, cs = [.string y.1, .string y.2] ∧ y.1.size ≤ maxLen ∧ y.2.size ≤ maxLen := by
  obtain ⟨xs, k, _, _, _, hxl, hf⟩ := DataW.trod_struct he h
  obtain ⟨v0, v1, rfl⟩ := len2 hl
  obtain ⟨y0, y1, rfl⟩ := len2 hxl
  have g0 := hf 0 f0 rfl
  have g1 := hf 1 f1 rfl
  simp [o0, o1, t0, t1, cells9] at g0 g1
  obtain ⟨s0, e0, z0⟩ := open_str g0
  obtain ⟨s1, e1, z1⟩ := open_str g1
  simp at e0 e1
  exact ⟨(s0, s1), by simp [e0, e1], z0, z1⟩

theorem open_pairs {f0 f1 : Field} {t e : TypeId} (ht : Try.prog.underlying t = some (.slice e)) (hc : Try.prog.cellsOf e = 2) (he : Try.prog.underlying e = some (.struct #[f0, f1])) (o0 : f0.offset = 0) (o1 : f1.offset = 1) (t0 : f0.type = 9) (t1 : f1.type = 9)
    {fuel : Nat} {v : Value} {x : DataW H × List MemPlace} (h : TR fuel t [v] = some x) : ∃ Xs, Pairs w v Xs ∧ Cap v ∧ Xs.length ≤ maxLen ∧ ∀ X ∈ Xs, X.1.size ≤ maxLen ∧ X.2.size ≤ maxLen := by
  obtain ⟨Ys, b, o, h1, h2, h3, h4⟩ := open_rows (fun cs' (y : ByteArray × ByteArray) => cs' = [.string y.1, .string y.2] ∧ y.1.size ≤ maxLen ∧ y.2.size ≤ maxLen) ht hc (by omega) (fun n cs' x' hl hx => open_pair he o0 o1 t0 t1 hl hx) h
  refine ⟨Ys, ⟨b, o, h1, fun j X hX => ?_⟩, h2, h3, mem_at fun j y hy => ?_⟩
  · obtain ⟨cs', _, ⟨rfl, _⟩, h5⟩ := h4 j X hX
    exact ⟨h5 0 (by omega), h5 1 (by omega)⟩
  · obtain ⟨_, _, ⟨_, h5⟩, _⟩ := h4 j y hy
    exact h5

theorem open_trips {f0 f1 f2 : Field} {t e : TypeId} (ht : Try.prog.underlying t = some (.slice e)) (hc : Try.prog.cellsOf e = 3) (he : Try.prog.underlying e = some (.struct #[f0, f1, f2])) (o0 : f0.offset = 0) (o1 : f1.offset = 1) (o2 : f2.offset = 2) (t0 : f0.type = 9) (t1 : f1.type = 9) (t2 : f2.type = 9)
    {fuel : Nat} {v : Value} {x : DataW H × List MemPlace} (h : TR fuel t [v] = some x) : ∃ Xs, Trips w v Xs ∧ Cap v ∧ Xs.length ≤ maxLen ∧ ∀ X ∈ Xs, X.1.size ≤ maxLen ∧ X.2.1.size ≤ maxLen ∧ X.2.2.size ≤ maxLen := by
  obtain ⟨Ys, b, o, h1, h2, h3, h4⟩ := open_rows (fun cs' (y : ByteArray × ByteArray × ByteArray) => cs' = [.string y.1, .string y.2.1, .string y.2.2] ∧ y.1.size ≤ maxLen ∧ y.2.1.size ≤ maxLen ∧ y.2.2.size ≤ maxLen) ht hc (by omega) (fun n cs' x' hl hx => by
    obtain ⟨xs, k, _, _, _, hxl, hf⟩ := DataW.trod_struct he hx
    obtain ⟨v0, v1, v2, rfl⟩ := len3 hl
    obtain ⟨y0, y1, y2, rfl⟩ := len3 hxl
    have g0 := hf 0 f0 rfl
    have g1 := hf 1 f1 rfl
    have g2 := hf 2 f2 rfl
    simp [o0, o1, o2, t0, t1, t2, cells9] at g0 g1 g2
    obtain ⟨s0, e0, z0⟩ := open_str g0
    obtain ⟨s1, e1, z1⟩ := open_str g1
    obtain ⟨s2, e2, z2⟩ := open_str g2
    simp at e0 e1 e2
    exact ⟨(s0, s1, s2), by simp [e0, e1, e2], z0, z1, z2⟩) h
  refine ⟨Ys, ⟨b, o, h1, fun j X hX => ?_⟩, h2, h3, mem_at fun j y hy => ?_⟩
  · obtain ⟨cs', _, ⟨rfl, _⟩, h5⟩ := h4 j X hX
    exact ⟨h5 0 (by omega), h5 1 (by omega), h5 2 (by omega)⟩
  · obtain ⟨_, _, ⟨_, h5⟩, _⟩ := h4 j y hy
    exact h5

/-- A range or none. -/
theorem open_range {f0 f1 f2 f3 : Field} (he : Try.prog.underlying 131 = some (.struct #[f0, f1, f2, f3])) (o0 : f0.offset = 0) (o1 : f1.offset = 1) (o2 : f2.offset = 2) (o3 : f3.offset = 3) (t0 : f0.type = 9) (t1 : f1.type = 4) (t2 : f2.type = 9) (t3 : f3.type = 4)
    {n : Nat} {v : Value} {x : DataW H × List MemPlace} (h : TR n 127 [v] = some x) :
    ∃ y : Inst, v = y.ptr ∧ (y.some' = true → (y.rb < w.heap.size ∧ w.cell? ⟨y.rb, y.ro, none⟩ = some (.string y.mn) ∧ w.cell? ⟨y.rb, y.ro + 1, none⟩ = some (.bool y.mnx) ∧ w.cell? ⟨y.rb, y.ro + 2, none⟩ = some (.string y.mx) ∧ w.cell? ⟨y.rb, y.ro + 3, none⟩ = some (.bool y.mxx)) ∧ y.mn.size ≤ maxLen ∧ y.mx.size ≤ maxLen) := by
  rcases DataW.trod_pointer Try.underlying127 h with ⟨hv, _⟩ | ⟨a, cs', y, k, _, hv, _, hcs, hd⟩
  · simp at hv
    exact ⟨⟨⟨#[]⟩, false, 0, 0, ⟨#[]⟩, false, ⟨#[]⟩, false⟩, by simp [Inst.ptr, hv], fun h => by cases h⟩
  · simp at hv
    rw [cells131] at hcs
    obtain ⟨_, hl, hc⟩ := World.cells?_some hcs
    obtain ⟨xs, k, _, _, _, hxl, hf⟩ := DataW.trod_struct he hd
    obtain ⟨v0, v1, v2, v3, rfl⟩ := len4 hl
    obtain ⟨y0, y1, y2, y3, rfl⟩ := len4 hxl
    have g0 := hf 0 f0 rfl
    have g1 := hf 1 f1 rfl
    have g2 := hf 2 f2 rfl
    have g3 := hf 3 f3 rfl
    simp [o0, o1, o2, o3, t0, t1, t2, t3, cells9, cells4] at g0 g1 g2 g3
    obtain ⟨s0, e0, z0⟩ := open_str g0
    obtain ⟨s1, e1, _⟩ := DataW.trod_bool Try.underlying4 g1
    obtain ⟨s2, e2, z2⟩ := open_str g2
    obtain ⟨s3, e3, _⟩ := DataW.trod_bool Try.underlying4 g3
    simp at e0 e1 e2 e3
    subst e0 e1 e2 e3
    obtain ⟨b, o, spot⟩ := a
    have c0 := hc 0 (by omega)
    have c1 := hc 1 (by omega)
    have c2 := hc 2 (by omega)
    have c3 := hc 3 (by omega)
    simp [Addr.add] at c0 c1 c2 c3
    have hs : spot = none := World.cell?_spot c0
    subst hs
    exact ⟨⟨⟨#[]⟩, true, b, o, s0, s1, s2, s3⟩, by simp [Inst.ptr, hv], fun _ => ⟨⟨cell_lt' c0, c0, c1, c2, c3⟩, z0, z2⟩⟩

theorem open_insts {f0 f1 : Field} (he : Try.prog.underlying 129 = some (.struct #[f0, f1])) (o0 : f0.offset = 0) (o1 : f1.offset = 1) (t0 : f0.type = 9) (t1 : f1.type = 127)
    (hr : ∀ (n : Nat) (v : Value) (x : DataW H × List MemPlace), TR n 127 [v] = some x → ∃ y : Inst, v = y.ptr ∧ (y.some' = true → (y.rb < w.heap.size ∧ w.cell? ⟨y.rb, y.ro, none⟩ = some (.string y.mn) ∧ w.cell? ⟨y.rb, y.ro + 1, none⟩ = some (.bool y.mnx) ∧ w.cell? ⟨y.rb, y.ro + 2, none⟩ = some (.string y.mx) ∧ w.cell? ⟨y.rb, y.ro + 3, none⟩ = some (.bool y.mxx)) ∧ y.mn.size ≤ maxLen ∧ y.mx.size ≤ maxLen))
    {fuel : Nat} {v : Value} {x : DataW H × List MemPlace} (h : TR fuel 67 [v] = some x) : ∃ Xs, Insts w v Xs ∧ Cap v ∧ Xs.length ≤ maxLen ∧ ∀ X ∈ Xs, X.id.size ≤ maxLen ∧ (X.some' = true → X.mn.size ≤ maxLen ∧ X.mx.size ≤ maxLen) := by
  obtain ⟨Ys, b, o, h1, h2, h3, h4⟩ := open_rows (fun cs' (y : Inst) => cs' = [.string y.id, y.ptr] ∧ y.id.size ≤ maxLen ∧ (y.some' = true → (y.rb < w.heap.size ∧ w.cell? ⟨y.rb, y.ro, none⟩ = some (.string y.mn) ∧ w.cell? ⟨y.rb, y.ro + 1, none⟩ = some (.bool y.mnx) ∧ w.cell? ⟨y.rb, y.ro + 2, none⟩ = some (.string y.mx) ∧ w.cell? ⟨y.rb, y.ro + 3, none⟩ = some (.bool y.mxx)) ∧ y.mn.size ≤ maxLen ∧ y.mx.size ≤ maxLen)) Try.underlying67 cells129 (by omega) (fun n cs' x' hl hx => by
    obtain ⟨xs, k, _, _, _, hxl, hf⟩ := DataW.trod_struct he hx
    obtain ⟨v0, v1, rfl⟩ := len2 hl
    obtain ⟨y0, y1, rfl⟩ := len2 hxl
    have g0 := hf 0 f0 rfl
    have g1 := hf 1 f1 rfl
    simp [o0, o1, t0, t1, cells9, cells127] at g0 g1
    obtain ⟨s0, e0, z0⟩ := open_str g0
    obtain ⟨y, e1, hy⟩ := hr _ _ _ g1
    simp at e0
    subst e0 e1
    exact ⟨{ y with id := s0 }, rfl, z0, hy⟩) h
  refine ⟨Ys, ⟨b, o, h1, fun j X hX => ?_⟩, h2, h3, mem_at fun j y hy => ?_⟩
  · obtain ⟨cs', _, ⟨rfl, _, h6⟩, h5⟩ := h4 j X hX
    exact ⟨h5 0 (by omega), h5 1 (by omega), fun hs => (h6 hs).1⟩
  · obtain ⟨_, _, ⟨_, h5, h6⟩, _⟩ := h4 j y hy
    exact ⟨h5, fun hs => (h6 hs).2⟩

theorem open_files {f0 f1 f2 f3 f4 : Field} (he : Try.prog.underlying 120 = some (.struct #[f0, f1, f2, f3, f4])) (o0 : f0.offset = 0) (o1 : f1.offset = 1) (o2 : f2.offset = 2) (o3 : f3.offset = 3) (o4 : f4.offset = 4) (t0 : f0.type = 9) (t1 : f1.type = 9) (t2 : f2.type = 58) (t3 : f3.type = 25) (t4 : f4.type = 4)
    {fuel : Nat} {v : Value} {x : DataW H × List MemPlace} (h : TR fuel 68 [v] = some x) : ∃ Xs, Fils w v Xs ∧ Cap v ∧ Xs.length ≤ maxLen ∧ ∀ X ∈ Xs, X.path.size ≤ maxLen ∧ X.source.size ≤ maxLen ∧ X.cn ≤ maxLen ∧ X.assets.length ≤ maxLen ∧ ∀ Y ∈ X.assets, Y.size ≤ maxLen := by
  obtain ⟨Ys, b, o, h1, h2, h3, h4⟩ := open_rows (fun cs' (y : Fl) => cs' = [.string y.path, .string y.source, .slice y.ca y.cn y.cc, y.av, .bool y.addr] ∧ Texts w y.av y.assets ∧ y.path.size ≤ maxLen ∧ y.source.size ≤ maxLen ∧ y.cn ≤ maxLen ∧ y.assets.length ≤ maxLen ∧ ∀ Y ∈ y.assets, Y.size ≤ maxLen) Try.underlying68 cells120 (by omega) (fun n cs' x' hl hx => by
    obtain ⟨xs, k, _, _, _, hxl, hf⟩ := DataW.trod_struct he hx
    obtain ⟨v0, v1, v2, v3, v4, rfl⟩ := len5 hl
    obtain ⟨y0, y1, y2, y3, y4, rfl⟩ := len5 hxl
    have g0 := hf 0 f0 rfl
    have g1 := hf 1 f1 rfl
    have g2 := hf 2 f2 rfl
    have g3 := hf 3 f3 rfl
    have g4 := hf 4 f4 rfl
    simp [o0, o1, o2, o3, o4, t0, t1, t2, t3, t4, cells9, cells4, cells58, cells25] at g0 g1 g2 g3 g4
    obtain ⟨s0, e0, z0⟩ := open_str g0
    obtain ⟨s1, e1, z1⟩ := open_str g1
    obtain ⟨s4, e4, _⟩ := DataW.trod_bool Try.underlying4 g4
    obtain ⟨Xs, hT, _, hT1, hT2⟩ := open_texts g3
    simp at e0 e1 e4
    subst e0 e1 e4
    rcases Go.Deep.open_slice Try.underlying58 g2 with ⟨hv, _⟩ | ⟨a, len, cap, m, n, D, Pl, hv, _, hl', hm, _⟩
    · simp at hv
      subst hv
      exact ⟨⟨s0, s1, none, 0, 0, v3, Xs, s4⟩, rfl, hT, z0, z1, by simp, hT1, hT2⟩
    · simp at hv
      subst hv
      exact ⟨⟨s0, s1, some a, len, cap, v3, Xs, s4⟩, rfl, hT, z0, z1, by show len ≤ maxLen; omega, hT1, hT2⟩) h
  refine ⟨Ys, ⟨b, o, h1, fun j X hX => ?_⟩, h2, h3, mem_at fun j y hy => ?_⟩
  · obtain ⟨cs', _, ⟨rfl, h6, _⟩, h5⟩ := h4 j X hX
    exact ⟨h5 0 (by omega), h5 1 (by omega), h5 2 (by omega), h5 3 (by omega), h5 4 (by omega), h6⟩
  · obtain ⟨_, _, ⟨_, _, h5⟩, _⟩ := h4 j y hy
    exact h5

/-- THE ARGUMENT. -/
theorem open_ext {fs : Array Field} (he : Try.prog.underlying 70 = some (.struct fs)) (hfs : fs.map (fun f => (f.offset, f.type)) = #[(0, 9), (1, 9), (2, 9), (3, 9), (4, 9), (5, 9), (6, 9), (7, 25), (8, 25), (9, 64), (10, 65), (11, 25), (12, 66), (13, 67), (14, 25), (15, 68)])
    (h64 : ∀ (n : Nat) (v : Value) (x : DataW H × List MemPlace), TR n 64 [v] = some x → ∃ Xs, Pairs w v Xs ∧ Cap v ∧ Xs.length ≤ maxLen ∧ ∀ X ∈ Xs, X.1.size ≤ maxLen ∧ X.2.size ≤ maxLen)
    (h65 : ∀ (n : Nat) (v : Value) (x : DataW H × List MemPlace), TR n 65 [v] = some x → ∃ Xs, Trips w v Xs ∧ Cap v ∧ Xs.length ≤ maxLen ∧ ∀ X ∈ Xs, X.1.size ≤ maxLen ∧ X.2.1.size ≤ maxLen ∧ X.2.2.size ≤ maxLen)
    (h66 : ∀ (n : Nat) (v : Value) (x : DataW H × List MemPlace), TR n 66 [v] = some x → ∃ Xs, Pairs w v Xs ∧ Cap v ∧ Xs.length ≤ maxLen ∧ ∀ X ∈ Xs, X.1.size ≤ maxLen ∧ X.2.size ≤ maxLen)
    (h67 : ∀ (n : Nat) (v : Value) (x : DataW H × List MemPlace), TR n 67 [v] = some x → ∃ Xs, Insts w v Xs ∧ Cap v ∧ Xs.length ≤ maxLen ∧ ∀ X ∈ Xs, X.id.size ≤ maxLen ∧ (X.some' = true → X.mn.size ≤ maxLen ∧ X.mx.size ≤ maxLen))
    (h68 : ∀ (n : Nat) (v : Value) (x : DataW H × List MemPlace), TR n 68 [v] = some x → ∃ Xs, Fils w v Xs ∧ Cap v ∧ Xs.length ≤ maxLen ∧ ∀ X ∈ Xs, X.path.size ≤ maxLen ∧ X.source.size ≤ maxLen ∧ X.cn ≤ maxLen ∧ X.assets.length ≤ maxLen ∧ ∀ Y ∈ X.assets, Y.size ≤ maxLen)
    {fuel : Nat} {cs : Array Value} {x : DataW H × List MemPlace} (h : TR fuel 70 cs.toList = some x) :
    ∃ e : E, cs = e.cells ∧ e.Lies w ∧ e.Wf ∧ Cap e.v7 ∧ Cap e.v8 ∧ Cap e.v9 ∧ Cap e.v10 ∧ Cap e.v11 ∧ Cap e.v12 ∧ Cap e.v15 := by
  obtain ⟨xs, k, _, _, hl, hxl, hf⟩ := DataW.trod_struct he h
  rw [cells70] at hl
  have hsz : fs.size = 16 := by have := congrArg Array.size hfs; simpa using this
  have at' : ∀ (i o t : Nat), (#[(0, 9), (1, 9), (2, 9), (3, 9), (4, 9), (5, 9), (6, 9), (7, 25), (8, 25), (9, 64), (10, 65), (11, 25), (12, 66), (13, 67), (14, 25), (15, 68)] : Array (Nat × Nat))[i]? = some (o, t) → Try.prog.cellsOf t = 1 → ∃ y, TR k t ((cs.toList.drop o).take 1) = some y := by
    intro i o t hi ht
    rw [← hfs, Array.getElem?_map] at hi
    obtain ⟨f, hf1, hf2⟩ := Option.map_eq_some_iff.1 hi
    have g := hf i f hf1
    simp only [Prod.mk.injEq] at hf2
    have hi16 := (Array.getElem?_eq_some_iff.1 hf1).1
    rw [hf2.1, hf2.2, ht, List.getElem?_eq_getElem (by omega)] at g
    exact ⟨_, g⟩
  obtain ⟨l⟩ := cs
  simp only at hl at'
  obtain ⟨c0, c1, c2, c3, c4, c5, c6, c7, c8, c9, c10, c11, c12, c13, c14, c15, rfl⟩ := len16 hl
  obtain ⟨_, g0⟩ := at' 0 0 9 rfl cells9
  obtain ⟨_, g1⟩ := at' 1 1 9 rfl cells9
  obtain ⟨_, g2⟩ := at' 2 2 9 rfl cells9
  obtain ⟨_, g3⟩ := at' 3 3 9 rfl cells9
  obtain ⟨_, g4⟩ := at' 4 4 9 rfl cells9
  obtain ⟨_, g5⟩ := at' 5 5 9 rfl cells9
  obtain ⟨_, g6⟩ := at' 6 6 9 rfl cells9
  obtain ⟨_, g7⟩ := at' 7 7 25 rfl cells25
  obtain ⟨_, g8⟩ := at' 8 8 25 rfl cells25
  obtain ⟨_, g9⟩ := at' 9 9 64 rfl cells64
  obtain ⟨_, g10⟩ := at' 10 10 65 rfl cells65
  obtain ⟨_, g11⟩ := at' 11 11 25 rfl cells25
  obtain ⟨_, g12⟩ := at' 12 12 66 rfl cells66
  obtain ⟨_, g13⟩ := at' 13 13 67 rfl cells67
  obtain ⟨_, g14⟩ := at' 14 14 25 rfl cells25
  obtain ⟨_, g15⟩ := at' 15 15 68 rfl cells68
  obtain ⟨s0, e0, z0⟩ := open_str g0
  obtain ⟨s1, e1, z1⟩ := open_str g1
  obtain ⟨s2, e2, z2⟩ := open_str g2
  obtain ⟨s3, e3, z3⟩ := open_str g3
  obtain ⟨s4, e4, z4⟩ := open_str g4
  obtain ⟨s5, e5, z5⟩ := open_str g5
  obtain ⟨s6, e6, z6⟩ := open_str g6
  simp at e0 e1 e2 e3 e4 e5 e6
  subst e0 e1 e2 e3 e4 e5 e6
  obtain ⟨T, T1, T2, T3⟩ := open_texts g7
  obtain ⟨G, G1, G2, G3⟩ := open_texts g8
  obtain ⟨P, P1, P2, P3⟩ := h64 _ _ _ g9
  obtain ⟨B, B1, B2, B3⟩ := h65 _ _ _ g10
  obtain ⟨C, C1, C2, C3⟩ := open_texts g11
  obtain ⟨Tg, Tg1, Tg2, Tg3⟩ := h66 _ _ _ g12
  obtain ⟨I, I1, I2, I3⟩ := h67 _ _ _ g13
  obtain ⟨M, M1, M2, M3⟩ := open_texts g14
  obtain ⟨F, F1, F2, F3⟩ := h68 _ _ _ g15
  exact ⟨⟨s0, s1, s2, s3, s4, s5, s6, c7, c8, c9, c10, c11, c12, c13, c14, c15, T, G, C, M, P, Tg, B, I, F⟩, rfl, ⟨T1, G1, P1, B1, C1, Tg1, I1, M1, F1⟩, ⟨z0, z1, z2, z3, z4, z5, z6, T3, G3, C3, M3, P3, Tg3, B3, I3, F3⟩, T2, G2, P2, B2, C2, Tg2, F2⟩

end
end Go.Proofs.Qxb6616617a.W
