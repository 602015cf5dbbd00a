/-
  A REGION THAT DRAWS ITS ORDER, ONE OF WHOSE LOADS READS A CELL THAT THE REGION'S LAST STORE WRITES: what the cell holds is asked only till the gate (the operation that waits for that load) has come up.
-/
import Derived.OrdersHeld
import Derived.RegionTactic
import Derived.Test.Qxb6616617aShapes
namespace Go.Proofs.Qxb6616617a.W
open Go Go.ChangeShapes Go.WideShapes Go.ChangeAt Go.RowKit

section
variable {P : Program} {ops : Array Oper} {Q : Exit → Act → World → Prop} {md : Region.Mode} {S : Array Bool → World → Prop}

/-- Whatever order comes, and S holds behind each operation, S knowing which have come up. -/
def AnyS (P : Program) (md : Region.Mode) (ops : Array Oper) (Q : Exit → Act → World → Prop) (S : Array Bool → World → Prop) : Nat → Array Bool → Act → World → Prop
  | 0, l, a, w => Region.ready md ops l = [] ∧ Q .normal a w
  | fuel + 1, l, a, w =>
    (Region.ready md ops l = [] → Q .normal a w) ∧
    ∀ i ∈ Region.ready md ops l, wpOp P ops Q i (fun a' w' => S (l.setIfInBounds i true) w' ∧ AnyS P md ops Q S fuel (l.setIfInBounds i true) a' w') a w

theorem AnyS.any : ∀ (fuel : Nat) (l : Array Bool) (a : Act) (w : World), AnyS P md ops Q S fuel l a w → wpAny P md ops Q fuel l a w
  | 0, _, _, _, h => h
  | fuel + 1, _, _, _, h => ⟨h.1, fun i hi => wpOp_mono (fun a' w' h' => AnyS.any fuel _ a' w' h'.2) (h.2 i hi)⟩

theorem unlisted {i : Nat} {l : Array Bool} (h : i ∈ Region.ready md ops l) : l.getD i true = false := (mem_ready.1 h).1

theorem waits_not {i j : Nat} {l : Array Bool} {oj : Oper} (hr : i ∈ Region.ready md ops l) (hj : j ∈ Region.ready md ops l) (hoj : ops[j]? = some oj) : ∀ e ∈ oj.after, Region.binds md e = true → e.on ≠ i := by
  obtain ⟨_, oj', hoj', hall⟩ := mem_ready.1 hj
  rw [hoj] at hoj'
  cases hoj'
  intro e he hb heq
  have h1 := hall e he hb
  have h0 := unlisted hr
  rw [heq] at h1
  rcases Nat.lt_or_ge i l.size with h' | h'
  · simp [h'] at h0 h1
    rw [h0] at h1
    cases h1
  · simp [Array.getElem?_eq_none h'] at h1

theorem AnyS.first {C : World → Prop} {i : Nat} {oi : Oper} {v : Value} (hi : ops[i]? = some oi) (hsel : ∀ (j : Nat) (o : Oper) cs b, ops[j]? = some o → o.op ≠ .select cs b)
    (hQ : ∀ c a w, Q (.panic c) (a.put oi.dst v) w → Q (.panic c) a w)
    (h1 : ∀ l w, i ∈ Region.ready md ops l → S l w → C w)
    (h2 : ∀ l j w0 w, i ∈ Region.ready md ops l → j ∈ Region.ready md ops l → j ≠ i → S l w0 → S ((l.setIfInBounds i true).setIfInBounds j true) w → S (l.setIfInBounds j true) w)
    (h3 : ∀ l w, i ∈ Region.ready md ops l → S l w → S (l.setIfInBounds i true) w) :
    ∀ (fuel : Nat) (l : Array Bool) (a : Act) (w : World),
      (∀ j oj, ops[j]? = some oj → j ≠ i → l.getD j true = false → (∀ e ∈ oj.after, Region.binds md e = true → e.on ≠ i) → oi.apart ops oj = true) →
      i ∈ Region.ready md ops l → YieldsIf P ops C oi v a → S l w →
      AnyS P md ops Q S fuel (l.setIfInBounds i true) (a.put oi.dst v) w → AnyS P md ops Q S (fuel + 1) l a w := by
  intro fuel
  induction fuel with
  | zero =>
    intro l a w _ hr hy hS H
    refine ⟨fun h => (by rw [h] at hr; cases hr), fun j hj => ?_⟩
    by_cases hji : j = i
    · subst hji
      exact hy.wpOp hi (h1 _ _ hr hS) ⟨h3 _ _ hr hS, H⟩
    · have := ready_mono hj hji
      rw [H.1] at this
      cases this
  | succ fuel ih =>
    intro l a w hfree hr hy hS H
    refine ⟨fun h => (by rw [h] at hr; cases hr), fun j hj => ?_⟩
    by_cases hji : j = i
    · subst hji
      exact hy.wpOp hi (h1 _ _ hr hS) ⟨h3 _ _ hr hS, H⟩
    · have g1 := H.2 j (ready_mono hj hji)
      obtain ⟨hjun, oj, hoj, _⟩ := mem_ready.1 hj
      have g2 := wpOp_putIf hoj (hfree j oj hoj hji hjun (waits_not hr hj hoj)) (fun cs b => hsel i oi cs b hi) (fun cs b => hsel j oj cs b hoj) hQ hy g1
      have hfree' : ∀ k ok, ops[k]? = some ok → k ≠ i → (l.setIfInBounds j true).getD k true = false → (∀ e ∈ ok.after, Region.binds md e = true → e.on ≠ i) → oi.apart ops ok = true := fun k ok hk hki hun hno => by
        refine hfree k ok hk hki ?_ hno
        by_cases hjk : j = k
        · subst hjk; exact hjun
        · rw [getD_set_ne true hjk] at hun; exact hun
      refine wpOp_mono (fun a' w' g3 => ?_) g2
      have s1 := h2 l j w w' hr hj hji hS g3.2.1
      refine ⟨s1, ih _ a' w' hfree' (ready_mono hr (Ne.symm hji)) g3.1 s1 ?_⟩
      rw [Array.setIfInBounds_comm _ _ hji]
      exact g3.2.2

/-- B throughout; A till the gate g has come up, which waits for i0. -/
def Gate (B A : World → Prop) (g i0 : Nat) (l : Array Bool) (w : World) : Prop :=
  B w ∧ (l.getD g false = true → l.getD i0 false = true) ∧ (A w ∨ l.getD g false = true)

theorem getD_false {i : Nat} {l : Array Bool} (h : l.getD i true = false) : l.getD i false = false := by
  rcases Nat.lt_or_ge i l.size with h' | h'
  · simp [h'] at h ⊢; exact h
  · simp [Array.getElem?_eq_none h']

variable {B A : World → Prop} {g i0 : Nat}

/-- Take number i first: it wants B alone. -/
theorem AnyS.takeB {i : Nat} {oi : Oper} {v : Value} {fuel : Nat} {l : Array Bool} {a : Act} {w : World} (hi : ops[i]? = some oi)
    (hs : Region.noSelect ops = true) (hf : Region.free md ops l i = true) (hr : (Region.ready md ops l).contains i = true)
    (hQ : ∀ c a w, Q (.panic c) (a.put oi.dst v) w → Q (.panic c) a w) (hig : i ≠ g) (hi0 : i ≠ i0) (hy : YieldsIf P ops B oi v a) (hS : Gate B A g i0 l w)
    (h : Gate B A g i0 (l.setIfInBounds i true) w → AnyS P md ops Q (Gate B A g i0) fuel (l.setIfInBounds i true) (a.put oi.dst v) w) : AnyS P md ops Q (Gate B A g i0) (fuel + 1) l a w := by
  have h3 : ∀ l w, i ∈ Region.ready md ops l → Gate B A g i0 l w → Gate B A g i0 (l.setIfInBounds i true) w := fun l w hr ⟨k1, k2, k3⟩ =>
    ⟨k1, by rw [getD_set_ne false hig, getD_set_ne false hi0]; exact k2, by rw [getD_set_ne false hig]; exact k3⟩
  have hr' : i ∈ Region.ready md ops l := by simpa using hr
  refine AnyS.first (C := B) hi (Region.noSelect_spec hs) hQ (fun l w _ hS => hS.1) ?_ h3 fuel l a w (Region.free_spec hi hf) hr' hy hS (h (h3 _ _ hr' hS))
  intro l j w0 w _ _ hji _ ⟨k1, k2, k3⟩
  rw [Array.setIfInBounds_comm _ _ (Ne.symm hji), getD_set_ne false hig] at k2 k3
  rw [getD_set_ne false hi0] at k2
  exact ⟨k1, k2, k3⟩

/-- Take i0 first: it may want A. -/
theorem AnyS.takeA {oi : Oper} {v : Value} {fuel : Nat} {l : Array Bool} {a : Act} {w : World} (hi : ops[i0]? = some oi)
    (hs : Region.noSelect ops = true) (hf : Region.free md ops l i0 = true) (hr : (Region.ready md ops l).contains i0 = true)
    (hQ : ∀ c a w, Q (.panic c) (a.put oi.dst v) w → Q (.panic c) a w) (hig : i0 ≠ g) {og : Oper} (hg : ops[g]? = some og) (hw : (og.after.any fun e => Region.binds md e && e.on == i0) = true)
    (hy : YieldsIf P ops (fun w => B w ∧ A w) oi v a) (hS : Gate B A g i0 l w)
    (h : Gate B A g i0 (l.setIfInBounds i0 true) w → AnyS P md ops Q (Gate B A g i0) fuel (l.setIfInBounds i0 true) (a.put oi.dst v) w) : AnyS P md ops Q (Gate B A g i0) (fuel + 1) l a w := by
  have off : ∀ l w, i0 ∈ Region.ready md ops l → Gate B A g i0 l w → l.getD g false = false := fun l w hr ⟨_, k2, _⟩ => by
    by_cases e : l.getD g false = true
    · have := k2 e
      rw [getD_false (unlisted hr)] at this
      cases this
    · simpa using e
  have lt : ∀ l, i0 ∈ Region.ready md ops l → (l.setIfInBounds i0 true).getD i0 false = true := fun l hr => by
    have h0 := unlisted hr
    rcases Nat.lt_or_ge i0 l.size with h' | h'
    · simp [h']
    · simp [Array.getElem?_eq_none h'] at h0
  have h3 : ∀ l w, i0 ∈ Region.ready md ops l → Gate B A g i0 l w → Gate B A g i0 (l.setIfInBounds i0 true) w := fun l w hr hS =>
    ⟨hS.1, fun _ => lt l hr, by rw [getD_set_ne false hig]; exact hS.2.2⟩
  have hr' : i0 ∈ Region.ready md ops l := by simpa using hr
  refine AnyS.first (C := fun w => B w ∧ A w) hi (Region.noSelect_spec hs) hQ ?_ ?_ h3 fuel l a w (Region.free_spec hi hf) hr' hy hS (h (h3 _ _ hr' hS))
  · intro l w hr hS
    refine ⟨hS.1, ?_⟩
    rcases hS.2.2 with k | k
    · exact k
    · rw [off l w hr hS] at k; cases k
  · intro l j w0 w hr hj hji hS ⟨k1, k2, k3⟩
    have hjg : j ≠ g := fun e => by
      subst e
      obtain ⟨e, he, hb⟩ := Array.any_eq_true'.1 hw
      simp only [Bool.and_eq_true, beq_iff_eq] at hb
      exact waits_not hr hj hg e he hb.1 hb.2
    have h0 := off l w0 hr hS
    rw [getD_set_ne false hjg, getD_set_ne false hig, h0] at k3
    refine ⟨k1, ?_, ?_⟩
    · rw [getD_set_ne false hjg, h0]; intro k; cases k
    · rcases k3 with k | k
      · exact .inl k
      · cases k

/-- One alone may come up. -/
theorem AnyS.one {S : Array Bool → World → Prop} {i : Nat} {oi : Oper} {fuel : Nat} {l : Array Bool} {a : Act} {w : World} (hi : ops[i]? = some oi) (hr : Region.ready md ops l = [i])
    (h : ∀ K' : Act → World → Prop, Hid (∀ a w, S (l.setIfInBounds i true) w → (S (l.setIfInBounds i true) w → AnyS P md ops Q S fuel (l.setIfInBounds i true) a w) → K' a w) → if Region.wanted oi (yielded ops a.tmps) = true then Oper.wp P oi a w K' Q else K' (a.put oi.dst undef) w) :
    AnyS P md ops Q S (fuel + 1) l a w := by
  refine ⟨fun h0 => (by rw [hr] at h0; cases h0), fun j hj => ?_⟩
  rw [hr] at hj
  have : j = i := by simpa using hj
  subst this
  exact wpOp_step hi fun K' hK => h K' fun a w hS hW => hK a w ⟨hS, hW hS⟩

theorem AnyS.done {S : Array Bool → World → Prop} {l : Array Bool} {a : Act} {w : World} (hr : Region.ready md ops l = []) (h : Q .normal a w) : ∀ fuel, AnyS P md ops Q S fuel l a w
  | 0 => ⟨hr, h⟩
  | _ + 1 => ⟨fun _ => h, by rw [hr]; simp⟩

/-- The beginning. -/
theorem AnyS.begin {id : Nat} {a : Act} {w : World} (n : Nat) (hn : ops.size = n) (hm : P.follows .mixedOrders = true) (hB : B w.drew) (hA : A w.drew)
    (h : Gate B A g i0 (Array.replicate n false) w.drew → AnyS P .any ops Q (Gate B A g i0) n (Array.replicate n false) a w.drew) : (Code.region id ops true).wp P Q a w := by
  subst hn
  exact wp_region_any hm (AnyS.any _ _ _ _ (h ⟨hB, fun k => by
    exfalso
    rcases Nat.lt_or_ge g ops.size with h' | h'
    · simp [h'] at k
    · simp [h'] at k, .inl hA⟩))

end
end Go.Proofs.Qxb6616617a.W
