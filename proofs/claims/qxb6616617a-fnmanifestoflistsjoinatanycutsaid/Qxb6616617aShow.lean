/-
  What the law looks at when the manifest is made: the argument's block N, the manifest's block H, the copy K of its metadata.
-/
import Derived.Test.Qxb6616617aGrow
import Derived.Test.Qxb6616617aElem
namespace Go.Proofs.Qxb6616617a.W
open Go.ChangeShapes Go.WideShapes Go.ChangeAt Go.RowKit
set_option linter.unusedVariables false

def mdCells (e : E) (gT gG gC : ByteArray) (dp pp bp : Value) : Array Value :=
  #[.string langB, .string e.s1, .string e.s2, .string e.s0, .string e.s3, dp, .string gT, .string gG, .string e.s5, .string gC, .string e.s6, pp, bp]

structure Sh (e : E) (N H K : Nat) (gT gG gC : ByteArray) (dp pp bp vI vA : Value) (w : World) : Prop where
  nl : N < w.heap.size
  hl : H < w.heap.size
  kl : K < w.heap.size
  cN : ∀ i, i < 16 → w.cell? ⟨N, i, none⟩ = e.cells[i]?
  c17 : w.cell? ⟨H, 17, none⟩ = some vI
  c18 : w.cell? ⟨H, 18, none⟩ = some vA
  cK : ∀ i, i < 13 → w.cell? ⟨K, i, none⟩ = (mdCells e gT gG gC dp pp bp)[i]?
  lies : e.Lies w
  D : Desc (H + 1) w dp e.s4
  P : Props (H + 1) w pp e.P
  B : Bads (H + 1) w bp e.B
  I : PairsA (H + 1) w vI e.Tg
  A : AstsA (H + 1) w vA (assetsAll e.F)

theorem Sh.below {e : E} {N H K : Nat} {gT gG gC : ByteArray} {dp pp bp vI vA : Value} {w w' : World} (h : Sh e N H K gT gG gC dp pp bp vI vA w) (hb : Below w.heap.size w w') : Sh e N H K gT gG gC dp pp bp vI vA w' := by
  have hs := hb.size
  have ha : Above (H + 1) w w' := Above.below hb
  refine ⟨Nat.lt_of_lt_of_le h.nl hs, Nat.lt_of_lt_of_le h.hl hs, Nat.lt_of_lt_of_le h.kl hs, fun i hi => ?_, ?_, ?_, fun i hi => ?_, h.lies.below hb, h.D.above ha, h.P.above ha, h.B.above ha, h.I.above ha, h.A.above ha⟩
  · rw [hb.cell (p := ⟨N, i, none⟩) h.nl]; exact h.cN i hi
  · rw [hb.cell (p := ⟨H, 17, none⟩) h.hl]; exact h.c17
  · rw [hb.cell (p := ⟨H, 18, none⟩) h.hl]; exact h.c18
  · rw [hb.cell (p := ⟨K, i, none⟩) h.kl]; exact h.cK i hi

theorem Made.above {e : E} {lo : Nat} {w w' : World} {dp pp bp vI vA : Value} (h : Desc lo w dp e.s4 ∧ Props lo w pp e.P ∧ Bads lo w bp e.B ∧ PairsA lo w vI e.Tg ∧ AstsA lo w vA (assetsAll e.F)) (ha : Above lo w w') :
    Desc lo w' dp e.s4 ∧ Props lo w' pp e.P ∧ Bads lo w' bp e.B ∧ PairsA lo w' vI e.Tg ∧ AstsA lo w' vA (assetsAll e.F) :=
  ⟨h.1.above ha, h.2.1.above ha, h.2.2.1.above ha, h.2.2.2.1.above ha, h.2.2.2.2.above ha⟩

theorem Desc.ptr {lo : Nat} {w : World} {p : Value} {s : ByteArray} (h : Desc lo w p s) : ∃ o, p = .pointer o := by
  cases hs : s.toList.isEmpty with
  | true => exact ⟨none, h.1 hs⟩
  | false => obtain ⟨b, hb, _⟩ := h.2 hs; exact ⟨_, hb⟩
theorem Props.ptr {lo : Nat} {w : World} {p : Value} {Ps : List (ByteArray × ByteArray)} (h : Props lo w p Ps) : ∃ o, p = .pointer o := by
  by_cases hs : Ps.length = 0
  · exact ⟨none, h.1 hs⟩
  · obtain ⟨b, v, hb, _⟩ := h.2 (by omega); exact ⟨_, hb⟩
theorem Bads.ptr {lo : Nat} {w : World} {p : Value} {Ps : List (ByteArray × ByteArray × ByteArray)} (h : Bads lo w p Ps) : ∃ o, p = .pointer o := by
  by_cases hs : Ps.length = 0
  · exact ⟨none, h.1 hs⟩
  · obtain ⟨b, v, hb, _⟩ := h.2 (by omega); exact ⟨_, hb⟩

/-- The two copies are made: id and md. -/
theorem Sh.start {e : E} {N H : Nat} {gT gG gC : ByteArray} {dp pp bp vI vA : Value} {w w4 : World} {a1 a2 : Array Value} {t1 t2 : TypeId} (hm : MSt w w4 H (manCells e nsB verB langB dp pp bp vI vA)) (hgT : glue e.T 44 = gT) (hgG : glue e.G 32 = gG) (hgC : glue e.C 44 = gC)
    (hN : N < w4.heap.size) (cN : ∀ i, i < 16 → w4.cell? ⟨N, i, none⟩ = e.cells[i]?) (hL : e.Lies w4)
    (hq : Desc (H + 1) w4 dp e.s4 ∧ Props (H + 1) w4 pp e.P ∧ Bads (H + 1) w4 bp e.B ∧ PairsA (H + 1) w4 vI e.Tg ∧ AstsA (H + 1) w4 vA (assetsAll e.F)) (ha : a2 = mdCells e gT gG gC dp pp bp) :
    Sh e N H (w4.heap.size + 1) gT gG gC dp pp bp vI vA ((w4.alloc (.cells a1 t1)).alloc (.cells a2 t2)) := by
  have hb : Below w4.heap.size w4 ((w4.alloc (.cells a1 t1)).alloc (.cells a2 t2)) := ((Below.refl _ _).alloc (Nat.le_refl _) _).alloc (by simp) _
  have hH := hm.lt
  have hs := hb.size
  have e1 : (w4.alloc (.cells a1 t1)).heap.size = w4.heap.size + 1 := by simp
  obtain ⟨q1, q2, q3, q4, q5⟩ := Made.above hq (Above.below hb)
  refine ⟨by omega, by omega, by simp, fun i hi => ?_, ?_, ?_, fun i hi => ?_, hL.below hb, q1, q2, q3, q4, q5⟩
  · rw [hb.cell (p := ⟨N, i, none⟩) hN]; exact cN i hi
  · rw [hb.cell (p := ⟨H, 17, none⟩) hH]; exact hm.cell 17
  · rw [hb.cell (p := ⟨H, 18, none⟩) hH]; exact hm.cell 18
  · subst ha
    have h := World.cell?_alloc_new (w4.alloc (.cells a1 t1)) (mdCells e gT gG gC dp pp bp) t2 i
    rw [e1] at h
    exact h

/-- An element of all the assets. -/
theorem assetsAll_get {F : List Fl} {k j : Nat} {x : Fl} {X : ByteArray} (h : F[k]? = some x) (hj : x.assets[j]? = some X) : (assetsAll F)[(assetsAll (F.take k)).length + j]? = some (X, x.path, x.addr) := by
  have e : assetsAll F = assetsAll (F.take k) ++ (assetsOf x ++ assetsAll (F.drop (k + 1))) := by
    have h1 : F = F.take k ++ x :: F.drop (k + 1) := by
      have h2 := (List.getElem?_eq_some_iff.1 h)
      obtain ⟨hk, rfl⟩ := h2
      rw [List.getElem_cons_drop, List.take_append_drop]
    conv => lhs; rw [h1]
    simp [assetsAll]
  rw [e, List.getElem?_append_right (by omega), Nat.add_sub_cancel_left, List.getElem?_append_left (by rw [assetsOf_len]; exact len_of hj)]
  exact assetsOf_get hj

theorem made23 {e : E} {N : Nat} {w : World} (h : Calls Try.prog 32 #[.pointer (some ⟨N, 0, none⟩)] w fun x w' => Made e w x w') : Calls Try.prog 23 #[.pointer (some ⟨N, 0, none⟩)] w fun x w' => Made e w x w' := by
  have hh := Hid.mk' h
  clear h
  go_enter Try.func23, Try.ntmps23
  go_wp2_with fail
  refine hh.out.mono ?_
  rintro x w' ⟨H, dp, pp, bp, vI, vA, rfl, hm⟩
  have HM := Hid.mk' hm
  clear hm
  go_wp2
  go_ret
  exact ⟨H, dp, pp, bp, vI, vA, rfl, HM.out⟩
end Go.Proofs.Qxb6616617a.W
