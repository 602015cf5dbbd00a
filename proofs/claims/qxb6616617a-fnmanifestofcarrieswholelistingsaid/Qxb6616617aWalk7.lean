/-
  THE LAW FnManifestOfCarriesWholeListing, walked: it says yes.
-/
import Derived.Test.Qxb6616617aShow
import Derived.Test.Qxb6616617aMan32
import Derived.Test.Qxb6616617aBytes20
import Derived.Test.Qxb6616617aOver21
import Derived.Test.Qxb6616617aToExt22
import Derived.Test.Qxb6616617aJoined24
import Derived.Deep.Light
import Derived.Deep.RegionHeld3
import Derived.Deep.Cut
import Derived.Deep.CutRange
namespace Go.Proofs.Qxb6616617a.W
open Go.ChangeShapes Go.WideShapes Go.ChangeAt Go.RowKit
set_option linter.unusedVariables false

set_option maxRecDepth 100000 in
set_option maxHeartbeats 16000000 in
theorem walk7 (e : E) (w : World) (h : e.Lies w) (hwf : e.Wf) (cT : Cap e.v7) (cG : Cap e.v8) (cC : Cap e.v11) :
    Calls Try.prog 7 #[.agg e.cells] w fun x w' => x = .returned (.bool true) ∧ Below w.heap.size w w' := by
  have b0 : Below w.heap.size w (w.alloc (.cells e.cells 70)) := (Below.refl _ _).alloc (Nat.le_refl _) _
  have H20 := Hid.mk' (bytes20 e _ (h.below b0) hwf)
  have d0 : (w.alloc (.cells e.cells 70)).cell? ⟨w.heap.size, 0, none⟩ = some (.string e.s0) := World.cell?_alloc_new _ _ _ 0
  have d1 : (w.alloc (.cells e.cells 70)).cell? ⟨w.heap.size, 1, none⟩ = some (.string e.s1) := World.cell?_alloc_new _ _ _ 1
  have d2 : (w.alloc (.cells e.cells 70)).cell? ⟨w.heap.size, 2, none⟩ = some (.string e.s2) := World.cell?_alloc_new _ _ _ 2
  have d3 : (w.alloc (.cells e.cells 70)).cell? ⟨w.heap.size, 3, none⟩ = some (.string e.s3) := World.cell?_alloc_new _ _ _ 3
  have d4 : (w.alloc (.cells e.cells 70)).cell? ⟨w.heap.size, 4, none⟩ = some (.string e.s4) := World.cell?_alloc_new _ _ _ 4
  have d5 : (w.alloc (.cells e.cells 70)).cell? ⟨w.heap.size, 5, none⟩ = some (.string e.s5) := World.cell?_alloc_new _ _ _ 5
  have d6 : (w.alloc (.cells e.cells 70)).cell? ⟨w.heap.size, 6, none⟩ = some (.string e.s6) := World.cell?_alloc_new _ _ _ 6
  have d7 : (w.alloc (.cells e.cells 70)).cell? ⟨w.heap.size, 7, none⟩ = some (e.v7) := World.cell?_alloc_new _ _ _ 7
  have d8 : (w.alloc (.cells e.cells 70)).cell? ⟨w.heap.size, 8, none⟩ = some (e.v8) := World.cell?_alloc_new _ _ _ 8
  have d9 : (w.alloc (.cells e.cells 70)).cell? ⟨w.heap.size, 9, none⟩ = some (e.v9) := World.cell?_alloc_new _ _ _ 9
  have d10 : (w.alloc (.cells e.cells 70)).cell? ⟨w.heap.size, 10, none⟩ = some (e.v10) := World.cell?_alloc_new _ _ _ 10
  have d11 : (w.alloc (.cells e.cells 70)).cell? ⟨w.heap.size, 11, none⟩ = some (e.v11) := World.cell?_alloc_new _ _ _ 11
  have d12 : (w.alloc (.cells e.cells 70)).cell? ⟨w.heap.size, 12, none⟩ = some (e.v12) := World.cell?_alloc_new _ _ _ 12
  have d13 : (w.alloc (.cells e.cells 70)).cell? ⟨w.heap.size, 13, none⟩ = some (e.v13) := World.cell?_alloc_new _ _ _ 13
  have d14 : (w.alloc (.cells e.cells 70)).cell? ⟨w.heap.size, 14, none⟩ = some (e.v14) := World.cell?_alloc_new _ _ _ 14
  have d15 : (w.alloc (.cells e.cells 70)).cell? ⟨w.heap.size, 15, none⟩ = some (e.v15) := World.cell?_alloc_new _ _ _ 15
  have cN0 := Hid.mk' (show ∀ i, i < 16 → (w.alloc (.cells e.cells 70)).cell? ⟨w.heap.size, i, none⟩ = e.cells[i]? from fun i _ => World.cell?_alloc_new _ _ _ i)
  have l0 : w.heap.size < (w.alloc (.cells e.cells 70)).heap.size := by simp
  have L0 := Hid.mk' (h.below b0)
  have HW := Hid.mk' hwf
  have CT := Hid.mk' cT
  have CG := Hid.mk' cG
  have CC := Hid.mk' cC
  have B0 := Hid.mk' b0
  clear h hwf cT cG cC b0
  go_enter Try.func7, Try.ntmps7
  go_upto_region 1 with fail
  obtain ⟨wa, hwa⟩ : ∃ wa, w.alloc (.cells e.cells 70) = wa := ⟨_, rfl⟩
  obtain ⟨N, hN⟩ : ∃ N, w.heap.size = N := ⟨_, rfl⟩
  rw [hwa] at d0 d1 d2 d3 d4 d5 d6 d7 d8 d9 d10 d11 d12 d13 d14 d15 cN0 l0 L0 B0 H20
  rw [hN] at d0 d1 d2 d3 d4 d5 d6 d7 d8 d9 d10 d11 d12 d13 d14 d15 cN0 l0
  rw [hwa, hN]
  have HNw := Hid.mk' hN
  clear hwa hN
  go_wp2_with fail
  refine H20.out.mono ?_
  rintro _ w1 ⟨⟨b, rfl, hb⟩, b1⟩
  have B1 := Hid.mk' (show Below w.heap.size w w1 from B0.out.trans (b1.mono B0.out.size))
  have L1 := Hid.mk' (L0.out.below b1)
  have cN1 := Hid.mk' (show ∀ i, i < 16 → w1.cell? ⟨N, i, none⟩ = e.cells[i]? from fun i hi => by rw [b1.cell (p := ⟨N, i, none⟩) l0]; exact cN0.out i hi)
  have l1 : N < w1.heap.size := Nat.lt_of_lt_of_le l0 b1.size
  have HB := Hid.mk' hb
  clear hb b1 l0 L0 cN0 B0 H20 d0 d1 d2 d3 d4 d5 d6 d7 d8 d9 d10 d11 d12 d13 d14 d15
  cases b with
  | false =>
    go_wp2
    go_ret
    exact ⟨rfl, B1.out⟩
  | true =>
    have HS := Hid.mk' (HB.out rfl)
    clear HB
    have H21 := Hid.mk' (over21 e N w1 L1.out HW.out cN1.out)
    go_wp2_with fail
    refine H21.out.mono ?_
    rintro _ wx ⟨⟨b, rfl⟩, hw⟩
    obtain rfl := hw.symm
    clear H21
    cases b with
    | true =>
      go_wp2
      go_ret
      exact ⟨rfl, B1.out⟩
    | false =>
      have H22 := Hid.mk' (toExt22 e N w1 L1.out HW.out HS.out cN1.out l1)
      go_wp2_with fail
      refine H22.out.mono ?_
      rintro _ w2 ⟨vP, vB, vT, vJ, vF, rfl, qP, qB, qT, qJ, qF, b2⟩
      obtain ⟨a7, c7, hv7⟩ : ∃ a c, e.v7 = .slice a e.T.length c := by obtain ⟨b, o, ⟨a, c, hv, _⟩, _⟩ := L1.out.T; exact ⟨a, c, hv⟩
      obtain ⟨a8, c8, hv8⟩ : ∃ a c, e.v8 = .slice a e.G.length c := by obtain ⟨b, o, ⟨a, c, hv, _⟩, _⟩ := L1.out.G; exact ⟨a, c, hv⟩
      obtain ⟨a11, c11, hv11⟩ : ∃ a c, e.v11 = .slice a e.C.length c := by obtain ⟨b, o, ⟨a, c, hv, _⟩, _⟩ := L1.out.C; exact ⟨a, c, hv⟩
      obtain ⟨a14, c14, hv14⟩ : ∃ a c, e.v14 = .slice a e.M.length c := by obtain ⟨b, o, ⟨a, c, hv, _⟩, _⟩ := L1.out.M; exact ⟨a, c, hv⟩
      obtain ⟨avP, cvP, rfl⟩ : ∃ a c, vP = .slice a e.P.length c := by obtain ⟨b, o, ⟨a, c, hv, _⟩, _⟩ := qP; exact ⟨a, c, hv⟩
      obtain ⟨avB, cvB, rfl⟩ : ∃ a c, vB = .slice a e.B.length c := by obtain ⟨b, o, ⟨a, c, hv, _⟩, _⟩ := qB; exact ⟨a, c, hv⟩
      obtain ⟨avT, cvT, rfl⟩ : ∃ a c, vT = .slice a e.Tg.length c := by obtain ⟨b, o, ⟨a, c, hv, _⟩, _⟩ := qT; exact ⟨a, c, hv⟩
      obtain ⟨avF, cvF, rfl⟩ : ∃ a c, vF = .slice a e.F.length c := by obtain ⟨b, o, ⟨a, c, hv, _⟩, _⟩ := qF; exact ⟨a, c, hv⟩
      obtain ⟨ja, jn, jc, rfl⟩ := qJ
      rw [hv7, hv8, hv11, hv14]
      have b3 : Below w1.heap.size w1 (w2.alloc (.cells #[.string e.s0, .string e.s1, .string e.s2, .string e.s3, .string e.s4, .string e.s5, .string e.s6, .slice a7 e.T.length c7, .slice a8 e.G.length c8, .slice avP e.P.length cvP, .slice avB e.B.length cvB, .slice a11 e.C.length c11, .slice avT e.Tg.length cvT, .slice ja jn jc, .slice a14 e.M.length c14, .slice avF e.F.length cvF] 80)) := b2.alloc b2.size _
      have b4 : Below w2.heap.size w2 (w2.alloc (.cells #[.string e.s0, .string e.s1, .string e.s2, .string e.s3, .string e.s4, .string e.s5, .string e.s6, .slice a7 e.T.length c7, .slice a8 e.G.length c8, .slice avP e.P.length cvP, .slice avB e.B.length cvB, .slice a11 e.C.length c11, .slice avT e.Tg.length cvT, .slice ja jn jc, .slice a14 e.M.length c14, .slice avF e.F.length cvF] 80)) := (Below.refl _ _).alloc (Nat.le_refl _) _
      have L3 := L1.out.below b3
      have HE := Hid.mk' (show Held e w2.heap.size (w2.alloc (.cells #[.string e.s0, .string e.s1, .string e.s2, .string e.s3, .string e.s4, .string e.s5, .string e.s6, .slice a7 e.T.length c7, .slice a8 e.G.length c8, .slice avP e.P.length cvP, .slice avB e.B.length cvB, .slice a11 e.C.length c11, .slice avT e.Tg.length cvT, .slice ja jn jc, .slice a14 e.M.length c14, .slice avF e.F.length cvF] 80)) (.slice avP e.P.length cvP) (.slice avB e.B.length cvB) (.slice avT e.Tg.length cvT) (.slice avF e.F.length cvF) from ⟨World.cell?_alloc_new _ _ _ 0, World.cell?_alloc_new _ _ _ 1, World.cell?_alloc_new _ _ _ 2, World.cell?_alloc_new _ _ _ 3, World.cell?_alloc_new _ _ _ 4, World.cell?_alloc_new _ _ _ 5, World.cell?_alloc_new _ _ _ 6, by rw [hv7]; exact World.cell?_alloc_new _ _ _ 7, by rw [hv8]; exact World.cell?_alloc_new _ _ _ 8, World.cell?_alloc_new _ _ _ 9, World.cell?_alloc_new _ _ _ 10, by rw [hv11]; exact World.cell?_alloc_new _ _ _ 11, World.cell?_alloc_new _ _ _ 12, World.cell?_alloc_new _ _ _ 15, L3.T, L3.G, L3.C, CT.out, CG.out, CC.out, qP.below b4, qB.below b4, qT.below b4, qF.above (Above.below b4), fun x hx => by
        obtain ⟨j, hj, hxe⟩ := List.getElem_of_mem hx
        exact (Fils.elem L3.F (j := j) (x := x) (by rw [List.getElem?_eq_getElem hj, hxe])).2⟩)
      have HM := Hid.mk' (made23 (manifest32 e _ _ _ _ _ _ HE.out HS.out))
      have B3 := Hid.mk' (show Below w.heap.size w (w2.alloc (.cells #[.string e.s0, .string e.s1, .string e.s2, .string e.s3, .string e.s4, .string e.s5, .string e.s6, .slice a7 e.T.length c7, .slice a8 e.G.length c8, .slice avP e.P.length cvP, .slice avB e.B.length cvB, .slice a11 e.C.length c11, .slice avT e.Tg.length cvT, .slice ja jn jc, .slice a14 e.M.length c14, .slice avF e.F.length cvF] 80)) from B1.out.trans (b3.mono B1.out.size))
      have cN3 := Hid.mk' (show ∀ i, i < 16 → (w2.alloc (.cells #[.string e.s0, .string e.s1, .string e.s2, .string e.s3, .string e.s4, .string e.s5, .string e.s6, .slice a7 e.T.length c7, .slice a8 e.G.length c8, .slice avP e.P.length cvP, .slice avB e.B.length cvB, .slice a11 e.C.length c11, .slice avT e.Tg.length cvT, .slice ja jn jc, .slice a14 e.M.length c14, .slice avF e.F.length cvF] 80)).cell? ⟨N, i, none⟩ = e.cells[i]? from fun i hi => by rw [b3.cell (p := ⟨N, i, none⟩) l1]; exact cN1.out i hi)
      have l3 : N < (w2.alloc (.cells #[.string e.s0, .string e.s1, .string e.s2, .string e.s3, .string e.s4, .string e.s5, .string e.s6, .slice a7 e.T.length c7, .slice a8 e.G.length c8, .slice avP e.P.length cvP, .slice avB e.B.length cvB, .slice a11 e.C.length c11, .slice avT e.Tg.length cvT, .slice ja jn jc, .slice a14 e.M.length c14, .slice avF e.F.length cvF] 80)).heap.size := Nat.lt_of_lt_of_le l1 b3.size
      have LL3 := Hid.mk' L3
      clear qP qB qT qF b2 b3 b4 L3 HE H22 L1 cN1 B1 l1 hv7 hv8 hv11 hv14
      go_wp2_with fail
      refine HM.out.mono ?_
      rintro _ w4 ⟨H, dp, pp, bp, vI, vA, rfl, m4, q4⟩
      have b4 := m4.below
      have lo4 := m4.lo
      have nH : N < H := by omega
      have hl4 := m4.lt
      have l4 : N < w4.heap.size := by omega
      have cN4 := Hid.mk' (show ∀ i, i < 16 → w4.cell? ⟨N, i, none⟩ = e.cells[i]? from fun i hi => by rw [b4.cell (p := ⟨N, i, none⟩) l3]; exact cN3.out i hi)
      have L4 := Hid.mk' (LL3.out.below b4)
      have B4 := Hid.mk' (B3.out.trans (b4.mono B3.out.size))
      have M4 := Hid.mk' m4
      have Q4 := Hid.mk' q4
      obtain ⟨dq, rfl⟩ := q4.1.ptr
      obtain ⟨pq, rfl⟩ := q4.2.1.ptr
      obtain ⟨bq, rfl⟩ := q4.2.2.1.ptr
      obtain ⟨gT, hgT⟩ : ∃ g, glue e.T 44 = g := ⟨_, rfl⟩
      obtain ⟨gG, hgG⟩ : ∃ g, glue e.G 32 = g := ⟨_, rfl⟩
      obtain ⟨gC, hgC⟩ : ∃ g, glue e.C 44 = g := ⟨_, rfl⟩
      have x0 : w4.cell? ⟨H, 0, none⟩ = some (.string ⟨#[]⟩) := m4.cell 0
      have x1 : w4.cell? ⟨H, 1, none⟩ = some (.string ⟨#[]⟩) := m4.cell 1
      have x2 : w4.cell? ⟨H, 2, none⟩ = some (.string ⟨#[104, 116, 116, 112, 58, 47, 47, 115, 99, 104, 101, 109, 97, 115, 46, 109, 105, 99, 114, 111, 115, 111, 102, 116, 46, 99, 111, 109, 47, 100, 101, 118, 101, 108, 111, 112, 101, 114, 47, 118, 115, 120, 45, 115, 99, 104, 101, 109, 97, 47, 50, 48, 49, 49]⟩) := m4.cell 2
      have x3 : w4.cell? ⟨H, 3, none⟩ = some (.string ⟨#[50, 46, 48, 46, 48]⟩) := m4.cell 3
      have x4 : w4.cell? ⟨H, 4, none⟩ = some (.string ⟨#[101, 110, 45, 85, 83]⟩) := m4.cell 4
      have x5 : w4.cell? ⟨H, 5, none⟩ = some (.string e.s1) := m4.cell 5
      have x6 : w4.cell? ⟨H, 6, none⟩ = some (.string e.s2) := m4.cell 6
      have x7 : w4.cell? ⟨H, 7, none⟩ = some (.string e.s0) := m4.cell 7
      have x8 : w4.cell? ⟨H, 8, none⟩ = some (.string e.s3) := m4.cell 8
      have x9 : w4.cell? ⟨H, 9, none⟩ = some (.pointer dq) := m4.cell 9
      have x10 : w4.cell? ⟨H, 10, none⟩ = some (.string gT) := by rw [← hgT]; exact m4.cell 10
      have x11 : w4.cell? ⟨H, 11, none⟩ = some (.string gG) := by rw [← hgG]; exact m4.cell 11
      have x12 : w4.cell? ⟨H, 12, none⟩ = some (.string e.s5) := m4.cell 12
      have x13 : w4.cell? ⟨H, 13, none⟩ = some (.string gC) := by rw [← hgC]; exact m4.cell 13
      have x14 : w4.cell? ⟨H, 14, none⟩ = some (.string e.s6) := m4.cell 14
      have x15 : w4.cell? ⟨H, 15, none⟩ = some (.pointer pq) := m4.cell 15
      have x16 : w4.cell? ⟨H, 16, none⟩ = some (.pointer bq) := m4.cell 16
      have y0 : w4.cell? ⟨N, 0, none⟩ = some (.string e.s0) := cN4.out 0 (by omega)
      have y1 : w4.cell? ⟨N, 1, none⟩ = some (.string e.s1) := cN4.out 1 (by omega)
      have y2 : w4.cell? ⟨N, 2, none⟩ = some (.string e.s2) := cN4.out 2 (by omega)
      have HGT := Hid.mk' hgT
      have HGG := Hid.mk' hgG
      have HGC := Hid.mk' hgC
      clear m4 q4 b4 hgT hgG hgC cN3 LL3 B3 l3 lo4 HM
      go_upto_region 17 with fail
      obtain ⟨w5, hw5⟩ : ∃ w5, (w4.alloc (.cells #[.string ⟨#[101, 110, 45, 85, 83]⟩, .string e.s1, .string e.s2, .string e.s0] 88)).alloc (.cells #[.string ⟨#[101, 110, 45, 85, 83]⟩, .string e.s1, .string e.s2, .string e.s0, .string e.s3, .pointer dq, .string gT, .string gG, .string e.s5, .string gC, .string e.s6, .pointer pq, .pointer bq] 93) = w5 := ⟨_, rfl⟩
      obtain ⟨K, hK⟩ : ∃ K, w4.heap.size + 1 = K := ⟨_, rfl⟩
      have S5 := Hid.mk' (show Sh e N H K gT gG gC (.pointer dq) (.pointer pq) (.pointer bq) vI vA w5 by rw [← hw5, ← hK]; exact Sh.start M4.out HGT.out HGG.out HGC.out l4 cN4.out L4.out Q4.out rfl)
      have B5 := Hid.mk' (show Below w.heap.size w w5 by rw [← hw5]; exact (B4.out.alloc B4.out.size _).alloc (by have := B4.out.size; simp; omega) _)
      rw [hw5, hK]
      clear hw5 hK M4 L4 Q4 B4 cN4 l4 hl4 nH y0 y1 y2 x0 x1 x2 x3 x4 x5 x6 x7 x8 x9 x10 x11 x12 x13 x14 x15 x16
      as_aux_lemma =>
        obtain ⟨a7, c7, b7, o7, hv7, A7⟩ : ∃ (a : Option Addr) (c b o : Nat), e.v7 = .slice a e.T.length c ∧ Hid ((0 < e.T.length → a = some ⟨b, o, none⟩ ∧ b < w5.heap.size) ∧ True) := by
          obtain ⟨b, o, ⟨a, c, h1, h2, _⟩, h3⟩ := S5.out.lies.T
          exact ⟨a, c, b, o, h1, h2, trivial⟩
        obtain ⟨L7, HL7⟩ : ∃ L, e.T.length = L := ⟨_, rfl⟩
        rw [HL7] at A7 hv7
        have NL7 := Hid.mk' HL7
        have V7 := Hid.mk' hv7
        have hL7 : L7 ≤ 1048576 := by rw [← HL7]; exact HS.out.T.1
        clear HL7 hv7
        obtain ⟨a8, c8, b8, o8, hv8, A8⟩ : ∃ (a : Option Addr) (c b o : Nat), e.v8 = .slice a e.G.length c ∧ Hid ((0 < e.G.length → a = some ⟨b, o, none⟩ ∧ b < w5.heap.size) ∧ True) := by
          obtain ⟨b, o, ⟨a, c, h1, h2, _⟩, h3⟩ := S5.out.lies.G
          exact ⟨a, c, b, o, h1, h2, trivial⟩
        obtain ⟨L8, HL8⟩ : ∃ L, e.G.length = L := ⟨_, rfl⟩
        rw [HL8] at A8 hv8
        have NL8 := Hid.mk' HL8
        have V8 := Hid.mk' hv8
        have hL8 : L8 ≤ 1048576 := by rw [← HL8]; exact HS.out.G.1
        clear HL8 hv8
        obtain ⟨a9, c9, b9, o9, hv9, A9⟩ : ∃ (a : Option Addr) (c b o : Nat), e.v9 = .slice a e.P.length c ∧ Hid ((0 < e.P.length → a = some ⟨b, o, none⟩ ∧ b < w5.heap.size) ∧ ∀ (j : Nat) x, e.P[j]? = some x → ElemPairs w5 b o j x) := by
          obtain ⟨b, o, ⟨a, c, h1, h2, _⟩, h3⟩ := S5.out.lies.P
          exact ⟨a, c, b, o, h1, h2, h3⟩
        obtain ⟨L9, HL9⟩ : ∃ L, e.P.length = L := ⟨_, rfl⟩
        rw [HL9] at A9 hv9
        have NL9 := Hid.mk' HL9
        have V9 := Hid.mk' hv9
        have hL9 : L9 ≤ 1048576 := by rw [← HL9]; exact HS.out.P
        clear HL9 hv9
        obtain ⟨a10, c10, b10, o10, hv10, A10⟩ : ∃ (a : Option Addr) (c b o : Nat), e.v10 = .slice a e.B.length c ∧ Hid ((0 < e.B.length → a = some ⟨b, o, none⟩ ∧ b < w5.heap.size) ∧ ∀ (j : Nat) x, e.B[j]? = some x → ElemTrips w5 b o j x) := by
          obtain ⟨b, o, ⟨a, c, h1, h2, _⟩, h3⟩ := S5.out.lies.B
          exact ⟨a, c, b, o, h1, h2, h3⟩
        obtain ⟨L10, HL10⟩ : ∃ L, e.B.length = L := ⟨_, rfl⟩
        rw [HL10] at A10 hv10
        have NL10 := Hid.mk' HL10
        have V10 := Hid.mk' hv10
        have hL10 : L10 ≤ 1048576 := by rw [← HL10]; exact HS.out.B
        clear HL10 hv10
        obtain ⟨a11, c11, b11, o11, hv11, A11⟩ : ∃ (a : Option Addr) (c b o : Nat), e.v11 = .slice a e.C.length c ∧ Hid ((0 < e.C.length → a = some ⟨b, o, none⟩ ∧ b < w5.heap.size) ∧ True) := by
          obtain ⟨b, o, ⟨a, c, h1, h2, _⟩, h3⟩ := S5.out.lies.C
          exact ⟨a, c, b, o, h1, h2, trivial⟩
        obtain ⟨L11, HL11⟩ : ∃ L, e.C.length = L := ⟨_, rfl⟩
        rw [HL11] at A11 hv11
        have NL11 := Hid.mk' HL11
        have V11 := Hid.mk' hv11
        have hL11 : L11 ≤ 1048576 := by rw [← HL11]; exact HS.out.C.1
        clear HL11 hv11
        obtain ⟨a12, c12, b12, o12, hv12, A12⟩ : ∃ (a : Option Addr) (c b o : Nat), e.v12 = .slice a e.Tg.length c ∧ Hid ((0 < e.Tg.length → a = some ⟨b, o, none⟩ ∧ b < w5.heap.size) ∧ ∀ (j : Nat) x, e.Tg[j]? = some x → ElemPairs w5 b o j x) := by
          obtain ⟨b, o, ⟨a, c, h1, h2, _⟩, h3⟩ := S5.out.lies.Tg
          exact ⟨a, c, b, o, h1, h2, h3⟩
        obtain ⟨L12, HL12⟩ : ∃ L, e.Tg.length = L := ⟨_, rfl⟩
        rw [HL12] at A12 hv12
        have NL12 := Hid.mk' HL12
        have V12 := Hid.mk' hv12
        have hL12 : L12 ≤ 1048576 := by rw [← HL12]; exact HS.out.Tg
        clear HL12 hv12
        obtain ⟨a15, c15, b15, o15, hv15, A15⟩ : ∃ (a : Option Addr) (c b o : Nat), e.v15 = .slice a e.F.length c ∧ Hid ((0 < e.F.length → a = some ⟨b, o, none⟩ ∧ b < w5.heap.size) ∧ ∀ (j : Nat) x, e.F[j]? = some x → ElemFils w5 b o j x ∧ Texts w5 x.av x.assets) := by
          obtain ⟨b, o, ⟨a, c, h1, h2, _⟩, h3⟩ := S5.out.lies.F
          exact ⟨a, c, b, o, h1, h2, fun j x hx => by obtain ⟨q0, q1, q2, q3, q4, q5⟩ := h3 j x hx; exact ⟨⟨q0, q1, q2, q3, q4⟩, q5⟩⟩
        obtain ⟨L15, HL15⟩ : ∃ L, e.F.length = L := ⟨_, rfl⟩
        rw [HL15] at A15 hv15
        have NL15 := Hid.mk' HL15
        have V15 := Hid.mk' hv15
        have hL15 : L15 ≤ 1048576 := by rw [← HL15]; exact HS.out.F.1
        clear HL15 hv15
        obtain ⟨s4, h4⟩ : ∃ s, e.s4 = s := ⟨_, rfl⟩
        have H4 := Hid.mk' h4
        clear h4
        have y3 : w5.cell? ⟨N, 3, none⟩ = some (.string e.s3) := S5.out.cN 3 (by omega)
        have y5 : w5.cell? ⟨N, 5, none⟩ = some (.string e.s5) := S5.out.cN 5 (by omega)
        have y6 : w5.cell? ⟨N, 6, none⟩ = some (.string e.s6) := S5.out.cN 6 (by omega)
        have y7 : w5.cell? ⟨N, 7, none⟩ = some (.slice a7 L7 c7) := by rw [← V7.out]; exact S5.out.cN 7 (by omega)
        have y8 : w5.cell? ⟨N, 8, none⟩ = some (.slice a8 L8 c8) := by rw [← V8.out]; exact S5.out.cN 8 (by omega)
        have y11 : w5.cell? ⟨N, 11, none⟩ = some (.slice a11 L11 c11) := by rw [← V11.out]; exact S5.out.cN 11 (by omega)
        have y4 : w5.cell? ⟨N, 4, none⟩ = some (.string s4) := by rw [← H4.out]; exact S5.out.cN 4 (by omega)
        have k4 : w5.cell? ⟨K, 4, none⟩ = some (.string e.s3) := S5.out.cK 4 (by omega)
        have k8 : w5.cell? ⟨K, 8, none⟩ = some (.string e.s5) := S5.out.cK 8 (by omega)
        have k10 : w5.cell? ⟨K, 10, none⟩ = some (.string e.s6) := S5.out.cK 10 (by omega)
        have k6 : w5.cell? ⟨K, 6, none⟩ = some (.string gT) := S5.out.cK 6 (by omega)
        have k7 : w5.cell? ⟨K, 7, none⟩ = some (.string gG) := S5.out.cK 7 (by omega)
        have k9 : w5.cell? ⟨K, 9, none⟩ = some (.string gC) := S5.out.cK 9 (by omega)
        have JT := Hid.mk' (show Calls Try.prog 24 #[.string gT, .slice a7 L7 c7, .int .u8 44] w5 fun x w' => x = .returned (.bool true) ∧ w' = w5 from by
          rw [← HGT.out, ← V7.out]
          exact joined24 44 S5.out.lies.T HS.out.T.1 HS.out.T.2)
        have JG := Hid.mk' (show Calls Try.prog 24 #[.string gG, .slice a8 L8 c8, .int .u8 32] w5 fun x w' => x = .returned (.bool true) ∧ w' = w5 from by
          rw [← HGG.out, ← V8.out]
          exact joined24 32 S5.out.lies.G HS.out.G.1 HS.out.G.2)
        have JC := Hid.mk' (show Calls Try.prog 24 #[.string gC, .slice a11 L11 c11, .int .u8 44] w5 fun x w' => x = .returned (.bool true) ∧ w' = w5 from by
          rw [← HGC.out, ← V11.out]
          exact joined24 44 S5.out.lies.C HS.out.C.1 HS.out.C.2)
        go_wp2_with fail
        refine JT.out.mono ?_
        rintro _ wx ⟨rfl, hw⟩
        obtain rfl := hw.symm
        clear JT
        go_wp2_with fail
        refine JG.out.mono ?_
        rintro _ wx ⟨rfl, hw⟩
        obtain rfl := hw.symm
        clear JG
        go_wp2_with fail
        refine JC.out.mono ?_
        rintro _ wx ⟨rfl, hw⟩
        obtain rfl := hw.symm
        clear JC
        go_upto_if 129 with fail
        clear y3 y5 y6 y7 y8 y11 k4 k8 k10 k6 k7 k9
        have k5 : w5.cell? ⟨K, 5, none⟩ = some (.pointer dq) := S5.out.cK 5 (by omega)
        go_cut [] from 127 to 153 (fun wd => Hid (Below w5.heap.size w5 wd))
        case first =>
          as_aux_lemma =>
            cases hs : s4.toList.isEmpty with
            | true =>
              obtain rfl : dq = none := by have := S5.out.D.1 (by rw [H4.out]; exact hs); injection this
              go_wp2
              go_meet
              case rel => exact Below.refl _ _
            | false =>
              obtain ⟨b, hb, _, hbl, hc0, hc1⟩ := S5.out.D.2 (by rw [H4.out]; exact hs)
              rw [H4.out] at hc1
              obtain rfl : dq = some ⟨b, 0, none⟩ := by injection hb
              clear hb
              go_wp2
              go_quiet (fail)
              go_wp2
              go_meet
              case rel => exact below_drewN (Below.refl _ _) _
        case rest =>
        as_aux_lemma =>
          clear y4 k5
          obtain ⟨w6, rfl⟩ : ∃ y, y = wc := ⟨_, rfl⟩
          have S6 := Hid.mk' (S5.out.below hcut.out)
          have B6 := Hid.mk' (show Below w.heap.size w w6 from B5.out.trans (hcut.out.mono B5.out.size))
          have A9' := Hid.mk' (show (0 < L9 → a9 = some ⟨b9, o9, none⟩ ∧ b9 < w6.heap.size) ∧ ∀ (j : Nat) x, e.P[j]? = some x → ElemPairs w6 b9 o9 j x from ⟨fun h => ⟨(A9.out.1 h).1, Nat.lt_of_lt_of_le (A9.out.1 h).2 hcut.out.size⟩, fun j x hx => (A9.out.2 j x hx).below hcut.out (A9.out.1 (by have := len_of hx; rw [NL9.out] at this; omega)).2⟩)
          have A10' := Hid.mk' (show (0 < L10 → a10 = some ⟨b10, o10, none⟩ ∧ b10 < w6.heap.size) ∧ ∀ (j : Nat) x, e.B[j]? = some x → ElemTrips w6 b10 o10 j x from ⟨fun h => ⟨(A10.out.1 h).1, Nat.lt_of_lt_of_le (A10.out.1 h).2 hcut.out.size⟩, fun j x hx => (A10.out.2 j x hx).below hcut.out (A10.out.1 (by have := len_of hx; rw [NL10.out] at this; omega)).2⟩)
          have A12' := Hid.mk' (show (0 < L12 → a12 = some ⟨b12, o12, none⟩ ∧ b12 < w6.heap.size) ∧ ∀ (j : Nat) x, e.Tg[j]? = some x → ElemPairs w6 b12 o12 j x from ⟨fun h => ⟨(A12.out.1 h).1, Nat.lt_of_lt_of_le (A12.out.1 h).2 hcut.out.size⟩, fun j x hx => (A12.out.2 j x hx).below hcut.out (A12.out.1 (by have := len_of hx; rw [NL12.out] at this; omega)).2⟩)
          have A15' := Hid.mk' (show (0 < L15 → a15 = some ⟨b15, o15, none⟩ ∧ b15 < w6.heap.size) ∧ ∀ (j : Nat) x, e.F[j]? = some x → ElemFils w6 b15 o15 j x ∧ Texts w6 x.av x.assets from ⟨fun h => ⟨(A15.out.1 h).1, Nat.lt_of_lt_of_le (A15.out.1 h).2 hcut.out.size⟩, fun j x hx => ⟨(A15.out.2 j x hx).1.below hcut.out (A15.out.1 (by have := len_of hx; rw [NL15.out] at this; omega)).2, (A15.out.2 j x hx).2.below hcut.out⟩⟩)
          clear A9 A10 A12 A15
          have A9 := A9'
          have A10 := A10'
          have A12 := A12'
          have A15 := A15'
          clear A9' A10' A12' A15'
          clear hcut S5 B5
          -- ████ P
          have y9 : w6.cell? ⟨N, 9, none⟩ = some (.slice a9 L9 c9) := by rw [← V9.out]; exact S6.out.cN 9 (by omega)
          have k11 : w6.cell? ⟨K, 11, none⟩ = some (.pointer pq) := S6.out.cK 11 (by omega)
          have nl := S6.out.nl
          have kl := S6.out.kl
          go_upto_if 157 with fail
          go_cut [] from 154 to 210 (fun wd => Hid (Below w6.heap.size w6 wd))
          case first =>
            as_aux_lemma =>
              by_cases hL : 0 < L9
              · obtain ⟨rfl, hb9⟩ := A9.out.1 hL
                obtain ⟨b, v, hp, _, hbl, hbc, hv⟩ := S6.out.P.2 (by rw [NL9.out]; exact hL)
                obtain ⟨bb, oo, ⟨a, cq, hva, ha, _⟩, _, hce⟩ := hv
                rw [NL9.out] at hva ha
                obtain ⟨rfl, hbb⟩ := ha hL
                subst hva
                obtain rfl : pq = some ⟨b, 0, none⟩ := by injection hp
                have CQ := Hid.mk' hce
                clear hce hp ha
                have hL' : (0 : Int) < (L9 : Int) := by omega
                have hL0 : ¬ (L9 : Int) = 0 := by omega
                have hL1 : ¬ L9 = 0 := by omega
                go_wp2
                go_quiet (fail)
                go_wp2
                go_loopw [7] (fun i wl => ∃ k : Nat, k ≤ L9 ∧ i = .int .i64 k ∧ Hid (Below w6.heap.size w6 wl)) (fun i _ => L9 - (intOf i).toNat)
                case atStart => exact ⟨0, Nat.zero_le _, rfl, below_drewN (Below.refl _ _) _⟩
                case round =>
                  obtain ⟨k, hk, rfl, HB⟩ := hrel
                  by_cases hlt : k < L9
                  · obtain ⟨x, hx⟩ : ∃ x, e.P[k]? = some x := ⟨_, List.getElem?_eq_getElem (by rw [NL9.out]; exact hlt)⟩
                    obtain ⟨g0, g1⟩ := (A9.out.2 k x hx).below HB.out hb9
                    obtain ⟨q0, q1⟩ := (show ElemPairs w6 bb oo k x from CQ.out k x hx).below HB.out hbb
                    have yr : wr.cell? ⟨N, 9, none⟩ = some (.slice (some ⟨b9, o9, none⟩) L9 c9) := by rw [HB.out.cell (p := ⟨N, 9, none⟩) nl]; exact y9
                    have kr : wr.cell? ⟨K, 11, none⟩ = some (.pointer (some ⟨b, 0, none⟩)) := by rw [HB.out.cell (p := ⟨K, 11, none⟩) kl]; exact k11
                    have br : wr.cell? ⟨b, 0, none⟩ = some (.slice (some ⟨bb, oo, none⟩) L9 cq) := by rw [HB.out.cell (p := ⟨b, 0, none⟩) hbl]; exact hbc
                    have nlr : N < wr.heap.size := Nat.lt_of_lt_of_le nl HB.out.size
                    have blr : b9 < wr.heap.size := Nat.lt_of_lt_of_le hb9 HB.out.size
                    have hlt' : (k : Int) < (L9 : Int) := by omega
                    have hk0 : (0 : Int) ≤ (k : Int) := by omega
                    clear hx
                    go_wp2
                    go_quiet (fail)
                    go_wp2
                    go_roundw
                    case rel => exact ⟨k + 1, by omega, by go_num, below_drewN (HB.out.alloc HB.out.size _) _⟩
                    case measure => go_light; simp [intOf]; omega
                  · have hlt' : ¬ (k : Int) < (L9 : Int) := by omega
                    have yr : wr.cell? ⟨N, 9, none⟩ = some (.slice (some ⟨b9, o9, none⟩) L9 c9) := by rw [HB.out.cell (p := ⟨N, 9, none⟩) nl]; exact y9
                    go_wp2
                    go_meet
                    case rel => exact HB.out
              · obtain rfl : pq = none := by have := S6.out.P.1 (by rw [NL9.out]; omega); injection this
                obtain rfl : L9 = 0 := by omega
                go_wp2
                go_meet
                case rel => exact Below.refl _ _
          case rest =>
          as_aux_lemma =>
            clear y9 k11 nl kl
            obtain ⟨w7, rfl⟩ : ∃ y, y = wc := ⟨_, rfl⟩
            have S7 := Hid.mk' (S6.out.below hcut.out)
            have B7 := Hid.mk' (show Below w.heap.size w w7 from B6.out.trans (hcut.out.mono B6.out.size))
            have A9' := Hid.mk' (show (0 < L9 → a9 = some ⟨b9, o9, none⟩ ∧ b9 < w7.heap.size) ∧ ∀ (j : Nat) x, e.P[j]? = some x → ElemPairs w7 b9 o9 j x from ⟨fun h => ⟨(A9.out.1 h).1, Nat.lt_of_lt_of_le (A9.out.1 h).2 hcut.out.size⟩, fun j x hx => (A9.out.2 j x hx).below hcut.out (A9.out.1 (by have := len_of hx; rw [NL9.out] at this; omega)).2⟩)
            have A10' := Hid.mk' (show (0 < L10 → a10 = some ⟨b10, o10, none⟩ ∧ b10 < w7.heap.size) ∧ ∀ (j : Nat) x, e.B[j]? = some x → ElemTrips w7 b10 o10 j x from ⟨fun h => ⟨(A10.out.1 h).1, Nat.lt_of_lt_of_le (A10.out.1 h).2 hcut.out.size⟩, fun j x hx => (A10.out.2 j x hx).below hcut.out (A10.out.1 (by have := len_of hx; rw [NL10.out] at this; omega)).2⟩)
            have A12' := Hid.mk' (show (0 < L12 → a12 = some ⟨b12, o12, none⟩ ∧ b12 < w7.heap.size) ∧ ∀ (j : Nat) x, e.Tg[j]? = some x → ElemPairs w7 b12 o12 j x from ⟨fun h => ⟨(A12.out.1 h).1, Nat.lt_of_lt_of_le (A12.out.1 h).2 hcut.out.size⟩, fun j x hx => (A12.out.2 j x hx).below hcut.out (A12.out.1 (by have := len_of hx; rw [NL12.out] at this; omega)).2⟩)
            have A15' := Hid.mk' (show (0 < L15 → a15 = some ⟨b15, o15, none⟩ ∧ b15 < w7.heap.size) ∧ ∀ (j : Nat) x, e.F[j]? = some x → ElemFils w7 b15 o15 j x ∧ Texts w7 x.av x.assets from ⟨fun h => ⟨(A15.out.1 h).1, Nat.lt_of_lt_of_le (A15.out.1 h).2 hcut.out.size⟩, fun j x hx => ⟨(A15.out.2 j x hx).1.below hcut.out (A15.out.1 (by have := len_of hx; rw [NL15.out] at this; omega)).2, (A15.out.2 j x hx).2.below hcut.out⟩⟩)
            clear A9 A10 A12 A15
            have A9 := A9'
            have A10 := A10'
            have A12 := A12'
            have A15 := A15'
            clear A9' A10' A12' A15'
            clear hcut S6 B6
            -- ████ B
            have y10 : w7.cell? ⟨N, 10, none⟩ = some (.slice a10 L10 c10) := by rw [← V10.out]; exact S7.out.cN 10 (by omega)
            have k12 : w7.cell? ⟨K, 12, none⟩ = some (.pointer bq) := S7.out.cK 12 (by omega)
            have nl := S7.out.nl
            have kl := S7.out.kl
            go_upto_if 214 with fail
            go_cut [] from 211 to 271 (fun wd => Hid (Below w7.heap.size w7 wd))
            case first =>
              as_aux_lemma =>
                by_cases hL : 0 < L10
                · obtain ⟨rfl, hb10⟩ := A10.out.1 hL
                  obtain ⟨b, v, hp, _, hbl, hbc, hv⟩ := S7.out.B.2 (by rw [NL10.out]; exact hL)
                  obtain ⟨bb, oo, ⟨a, cq, hva, ha, _⟩, _, hce⟩ := hv
                  rw [NL10.out] at hva ha
                  obtain ⟨rfl, hbb⟩ := ha hL
                  subst hva
                  obtain rfl : bq = some ⟨b, 0, none⟩ := by injection hp
                  have CQ := Hid.mk' hce
                  clear hce hp ha
                  have hL' : (0 : Int) < (L10 : Int) := by omega
                  have hL0 : ¬ (L10 : Int) = 0 := by omega
                  have hL1 : ¬ L10 = 0 := by omega
                  go_wp2
                  go_quiet (fail)
                  go_wp2
                  go_loopw [9] (fun i wl => ∃ k : Nat, k ≤ L10 ∧ i = .int .i64 k ∧ Hid (Below w7.heap.size w7 wl)) (fun i _ => L10 - (intOf i).toNat)
                  case atStart => exact ⟨0, Nat.zero_le _, rfl, below_drewN (Below.refl _ _) _⟩
                  case round =>
                    obtain ⟨k, hk, rfl, HB⟩ := hrel
                    by_cases hlt : k < L10
                    · obtain ⟨x, hx⟩ : ∃ x, e.B[k]? = some x := ⟨_, List.getElem?_eq_getElem (by rw [NL10.out]; exact hlt)⟩
                      obtain ⟨g0, g1, g2⟩ := (A10.out.2 k x hx).below HB.out hb10
                      obtain ⟨q0, q1, q2⟩ := (show ElemTrips w7 bb oo k x from CQ.out k x hx).below HB.out hbb
                      have yr : wr.cell? ⟨N, 10, none⟩ = some (.slice (some ⟨b10, o10, none⟩) L10 c10) := by rw [HB.out.cell (p := ⟨N, 10, none⟩) nl]; exact y10
                      have kr : wr.cell? ⟨K, 12, none⟩ = some (.pointer (some ⟨b, 0, none⟩)) := by rw [HB.out.cell (p := ⟨K, 12, none⟩) kl]; exact k12
                      have br : wr.cell? ⟨b, 0, none⟩ = some (.slice (some ⟨bb, oo, none⟩) L10 cq) := by rw [HB.out.cell (p := ⟨b, 0, none⟩) hbl]; exact hbc
                      have nlr : N < wr.heap.size := Nat.lt_of_lt_of_le nl HB.out.size
                      have blr : b10 < wr.heap.size := Nat.lt_of_lt_of_le hb10 HB.out.size
                      have hlt' : (k : Int) < (L10 : Int) := by omega
                      have hk0 : (0 : Int) ≤ (k : Int) := by omega
                      clear hx
                      go_wp2
                      go_roundw
                      case rel => exact ⟨k + 1, by omega, by go_num, (HB.out.alloc HB.out.size _).alloc (by have := HB.out.size; simp; omega) _⟩
                      case measure => go_light; simp [intOf]; omega
                    · have hlt' : ¬ (k : Int) < (L10 : Int) := by omega
                      have yr : wr.cell? ⟨N, 10, none⟩ = some (.slice (some ⟨b10, o10, none⟩) L10 c10) := by rw [HB.out.cell (p := ⟨N, 10, none⟩) nl]; exact y10
                      go_wp2
                      go_meet
                      case rel => exact HB.out
                · obtain rfl : bq = none := by have := S7.out.B.1 (by rw [NL10.out]; omega); injection this
                  obtain rfl : L10 = 0 := by omega
                  go_wp2
                  go_meet
                  case rel => exact Below.refl _ _
            case rest =>
            as_aux_lemma =>
              clear y10 k12 nl kl
              obtain ⟨w8, rfl⟩ : ∃ y, y = wc := ⟨_, rfl⟩
              have S8 := Hid.mk' (S7.out.below hcut.out)
              have B8 := Hid.mk' (show Below w.heap.size w w8 from B7.out.trans (hcut.out.mono B7.out.size))
              have A9' := Hid.mk' (show (0 < L9 → a9 = some ⟨b9, o9, none⟩ ∧ b9 < w8.heap.size) ∧ ∀ (j : Nat) x, e.P[j]? = some x → ElemPairs w8 b9 o9 j x from ⟨fun h => ⟨(A9.out.1 h).1, Nat.lt_of_lt_of_le (A9.out.1 h).2 hcut.out.size⟩, fun j x hx => (A9.out.2 j x hx).below hcut.out (A9.out.1 (by have := len_of hx; rw [NL9.out] at this; omega)).2⟩)
              have A10' := Hid.mk' (show (0 < L10 → a10 = some ⟨b10, o10, none⟩ ∧ b10 < w8.heap.size) ∧ ∀ (j : Nat) x, e.B[j]? = some x → ElemTrips w8 b10 o10 j x from ⟨fun h => ⟨(A10.out.1 h).1, Nat.lt_of_lt_of_le (A10.out.1 h).2 hcut.out.size⟩, fun j x hx => (A10.out.2 j x hx).below hcut.out (A10.out.1 (by have := len_of hx; rw [NL10.out] at this; omega)).2⟩)
              have A12' := Hid.mk' (show (0 < L12 → a12 = some ⟨b12, o12, none⟩ ∧ b12 < w8.heap.size) ∧ ∀ (j : Nat) x, e.Tg[j]? = some x → ElemPairs w8 b12 o12 j x from ⟨fun h => ⟨(A12.out.1 h).1, Nat.lt_of_lt_of_le (A12.out.1 h).2 hcut.out.size⟩, fun j x hx => (A12.out.2 j x hx).below hcut.out (A12.out.1 (by have := len_of hx; rw [NL12.out] at this; omega)).2⟩)
              have A15' := Hid.mk' (show (0 < L15 → a15 = some ⟨b15, o15, none⟩ ∧ b15 < w8.heap.size) ∧ ∀ (j : Nat) x, e.F[j]? = some x → ElemFils w8 b15 o15 j x ∧ Texts w8 x.av x.assets from ⟨fun h => ⟨(A15.out.1 h).1, Nat.lt_of_lt_of_le (A15.out.1 h).2 hcut.out.size⟩, fun j x hx => ⟨(A15.out.2 j x hx).1.below hcut.out (A15.out.1 (by have := len_of hx; rw [NL15.out] at this; omega)).2, (A15.out.2 j x hx).2.below hcut.out⟩⟩)
              clear A9 A10 A12 A15
              have A9 := A9'
              have A10 := A10'
              have A12 := A12'
              have A15 := A15'
              clear A9' A10' A12' A15'
              clear hcut S7 B7
              -- ████ Tg
              have y12 : w8.cell? ⟨N, 12, none⟩ = some (.slice a12 L12 c12) := by rw [← V12.out]; exact S8.out.cN 12 (by omega)
              obtain ⟨bI, oI, aI, cI, hvI, AI⟩ : ∃ (b o : Nat) (a : Option Addr) (c : Nat), vI = .slice a L12 c ∧ Hid ((0 < L12 → a = some ⟨b, o, none⟩ ∧ b < w8.heap.size) ∧ ∀ (j : Nat) x, e.Tg[j]? = some x → ElemPairs w8 b o j x) := by
                obtain ⟨b, o, ⟨a, c, h1, h2, _⟩, _, h3⟩ := S8.out.I
                rw [NL12.out] at h1 h2
                exact ⟨b, o, a, c, h1, h2, h3⟩
              have x17 : w8.cell? ⟨H, 17, none⟩ = some (.slice aI L12 cI) := by rw [← hvI]; exact S8.out.c17
              clear hvI
              have nl := S8.out.nl
              have hl := S8.out.hl
              go_wp2
              go_quiet (fail)
              go_wp2
              go_loopw [12] (fun i wl => ∃ k : Nat, k ≤ L12 ∧ i = .int .i64 k ∧ Hid (Below w8.heap.size w8 wl)) (fun i _ => L12 - (intOf i).toNat)
              case atStart => exact ⟨0, Nat.zero_le _, rfl, below_drewN (Below.refl _ _) _⟩
              case round =>
                obtain ⟨k, hk, rfl, HB⟩ := hrel
                by_cases hlt : k < L12
                · obtain ⟨rfl, hb12⟩ := A12.out.1 (by omega)
                  obtain ⟨rfl, hbI⟩ := AI.out.1 (by omega)
                  obtain ⟨x, hx⟩ : ∃ x, e.Tg[k]? = some x := ⟨_, List.getElem?_eq_getElem (by rw [NL12.out]; exact hlt)⟩
                  obtain ⟨g0, g1⟩ := (A12.out.2 k x hx).below HB.out hb12
                  obtain ⟨q0, q1⟩ := (AI.out.2 k x hx).below HB.out hbI
                  have yr : wr.cell? ⟨N, 12, none⟩ = some (.slice (some ⟨b12, o12, none⟩) L12 c12) := by rw [HB.out.cell (p := ⟨N, 12, none⟩) nl]; exact y12
                  have xr : wr.cell? ⟨H, 17, none⟩ = some (.slice (some ⟨bI, oI, none⟩) L12 cI) := by rw [HB.out.cell (p := ⟨H, 17, none⟩) hl]; exact x17
                  have nlr : N < wr.heap.size := Nat.lt_of_lt_of_le nl HB.out.size
                  have blr : b12 < wr.heap.size := Nat.lt_of_lt_of_le hb12 HB.out.size
                  have hlt' : (k : Int) < (L12 : Int) := by omega
                  have hk0 : (0 : Int) ≤ (k : Int) := by omega
                  clear hx
                  go_wp2
                  go_quiet (fail)
                  go_wp2
                  go_roundw
                  case rel => exact ⟨k + 1, by omega, by go_num, below_drewN (HB.out.alloc HB.out.size _) _⟩
                  case measure => go_light; simp [intOf]; omega
                · have hlt' : ¬ (k : Int) < (L12 : Int) := by omega
                  have yr : wr.cell? ⟨N, 12, none⟩ = some (.slice a12 L12 c12) := by rw [HB.out.cell (p := ⟨N, 12, none⟩) nl]; exact y12
                  have hcut := HB
                  go_upto_region 58 with fail
                  clear yr y12 x17 nl hl AI
                  obtain ⟨wc, rfl⟩ : ∃ y, y = wr := ⟨_, rfl⟩
                  clear HB
                  obtain ⟨w9, rfl⟩ : ∃ y, y = wc := ⟨_, rfl⟩
                  have S9 := Hid.mk' (S8.out.below hcut.out)
                  have B9 := Hid.mk' (show Below w.heap.size w w9 from B8.out.trans (hcut.out.mono B8.out.size))
                  have A9' := Hid.mk' (show (0 < L9 → a9 = some ⟨b9, o9, none⟩ ∧ b9 < w9.heap.size) ∧ ∀ (j : Nat) x, e.P[j]? = some x → ElemPairs w9 b9 o9 j x from ⟨fun h => ⟨(A9.out.1 h).1, Nat.lt_of_lt_of_le (A9.out.1 h).2 hcut.out.size⟩, fun j x hx => (A9.out.2 j x hx).below hcut.out (A9.out.1 (by have := len_of hx; rw [NL9.out] at this; omega)).2⟩)
                  have A10' := Hid.mk' (show (0 < L10 → a10 = some ⟨b10, o10, none⟩ ∧ b10 < w9.heap.size) ∧ ∀ (j : Nat) x, e.B[j]? = some x → ElemTrips w9 b10 o10 j x from ⟨fun h => ⟨(A10.out.1 h).1, Nat.lt_of_lt_of_le (A10.out.1 h).2 hcut.out.size⟩, fun j x hx => (A10.out.2 j x hx).below hcut.out (A10.out.1 (by have := len_of hx; rw [NL10.out] at this; omega)).2⟩)
                  have A12' := Hid.mk' (show (0 < L12 → a12 = some ⟨b12, o12, none⟩ ∧ b12 < w9.heap.size) ∧ ∀ (j : Nat) x, e.Tg[j]? = some x → ElemPairs w9 b12 o12 j x from ⟨fun h => ⟨(A12.out.1 h).1, Nat.lt_of_lt_of_le (A12.out.1 h).2 hcut.out.size⟩, fun j x hx => (A12.out.2 j x hx).below hcut.out (A12.out.1 (by have := len_of hx; rw [NL12.out] at this; omega)).2⟩)
                  have A15' := Hid.mk' (show (0 < L15 → a15 = some ⟨b15, o15, none⟩ ∧ b15 < w9.heap.size) ∧ ∀ (j : Nat) x, e.F[j]? = some x → ElemFils w9 b15 o15 j x ∧ Texts w9 x.av x.assets from ⟨fun h => ⟨(A15.out.1 h).1, Nat.lt_of_lt_of_le (A15.out.1 h).2 hcut.out.size⟩, fun j x hx => ⟨(A15.out.2 j x hx).1.below hcut.out (A15.out.1 (by have := len_of hx; rw [NL15.out] at this; omega)).2, (A15.out.2 j x hx).2.below hcut.out⟩⟩)
                  clear A9 A10 A12 A15
                  have A9 := A9'
                  have A10 := A10'
                  have A12 := A12'
                  have A15 := A15'
                  clear A9' A10' A12' A15'
                  clear hcut S8 B8
                  as_aux_lemma =>
                    -- ████ F
                    have y15 : w9.cell? ⟨N, 15, none⟩ = some (.slice a15 L15 c15) := by rw [← V15.out]; exact S9.out.cN 15 (by omega)
                    obtain ⟨LT, HLT⟩ : ∃ L, (assetsAll e.F).length = L := ⟨_, rfl⟩
                    obtain ⟨bA, oA, aA, cA, hvA, AA⟩ : ∃ (b o : Nat) (a : Option Addr) (c : Nat), vA = .slice a LT c ∧ Hid ((0 < LT → a = some ⟨b, o, none⟩ ∧ b < w9.heap.size) ∧ ∀ (j : Nat) x, (assetsAll e.F)[j]? = some x → w9.cell? ⟨b, o + j * 3, none⟩ = some (.string x.1) ∧ w9.cell? ⟨b, o + j * 3 + 1, none⟩ = some (.string x.2.1) ∧ w9.cell? ⟨b, o + j * 3 + 2, none⟩ = some (.bool x.2.2)) := by
                      obtain ⟨b, o, ⟨a, c, h1, h2, _⟩, _, h3⟩ := S9.out.A
                      rw [HLT] at h1 h2
                      exact ⟨b, o, a, c, h1, h2, h3⟩
                    have x18 : w9.cell? ⟨H, 18, none⟩ = some (.slice aA LT cA) := by rw [← hvA]; exact S9.out.c18
                    have hLT : LT ≤ 1099511627776 := by
                      rw [← HLT]
                      have h1 := assetsAll_le (F := e.F) HS.out.F.2
                      rw [NL15.out] at h1
                      omega
                    have NLT := Hid.mk' HLT
                    clear hvA HLT
                    have nl := S9.out.nl
                    have hl := S9.out.hl
                    go_wp2
                    go_loopw [14, 15] (fun c i wl => ∃ (k q : Nat), k ≤ L15 ∧ i = .int .i64 k ∧ c = .int .i64 q ∧ q ≤ LT ∧ Hid (q = (assetsAll (e.F.take k)).length) ∧ Hid (Below w9.heap.size w9 wl)) (fun _ i _ => L15 - (intOf i).toNat)
                    case atStart => exact ⟨0, 0, Nat.zero_le _, rfl, rfl, Nat.zero_le _, rfl, Below.refl _ _⟩
                    case round =>
                      obtain ⟨k, q, hk, rfl, rfl, hq, HQ, HB⟩ := hrel
                      have yr : wr.cell? ⟨N, 15, none⟩ = some (.slice a15 L15 c15) := by rw [HB.out.cell (p := ⟨N, 15, none⟩) nl]; exact y15
                      have xr : wr.cell? ⟨H, 18, none⟩ = some (.slice aA LT cA) := by rw [HB.out.cell (p := ⟨H, 18, none⟩) hl]; exact x18
                      by_cases hlt : k < L15
                      · obtain ⟨rfl, hb15⟩ := A15.out.1 (by omega)
                        obtain ⟨x, hx⟩ : ∃ x, e.F[k]? = some x := ⟨_, List.getElem?_eq_getElem (by rw [NL15.out]; exact hlt)⟩
                        obtain ⟨g0, g1, g2, g3, g4⟩ := (A15.out.2 k x hx).1.below HB.out hb15
                        obtain ⟨aX, cX, bX, oX, hvX, AX⟩ : ∃ (a : Option Addr) (c b o : Nat), x.av = .slice a x.assets.length c ∧ Hid ((0 < x.assets.length → a = some ⟨b, o, none⟩ ∧ b < w9.heap.size) ∧ ∀ (j : Nat) X, x.assets[j]? = some X → w9.cell? ⟨b, o + j, none⟩ = some (.string X)) := by
                          obtain ⟨b, o, ⟨a, c, h1, h2, h3⟩, h4⟩ := (A15.out.2 k x hx).2
                          exact ⟨a, c, b, o, h1, h2, h4⟩
                        obtain ⟨LX, HLX⟩ : ∃ L, x.assets.length = L := ⟨_, rfl⟩
                        have hLX : LX ≤ 1048576 := by rw [← HLX]; exact HS.out.F.2 x (List.mem_of_getElem? hx)
                        rw [hvX, HLX] at g3
                        rw [HLX] at AX
                        have NLX := Hid.mk' HLX
                        have HX := Hid.mk' hx
                        clear hx HLX hvX
                        have hlt' : (k : Int) < (L15 : Int) := by omega
                        have hk0 : (0 : Int) ≤ (k : Int) := by omega
                        have hlr : H < wr.heap.size := Nat.lt_of_lt_of_le hl HB.out.size
                        obtain ⟨wo, rfl⟩ : ∃ y, y = wr := ⟨_, rfl⟩
                        go_wp2
                        obtain ⟨wk, hwk⟩ : ∃ y, wo.alloc (.cells #[.string x.path, .string x.source, .slice x.ca x.cn x.cc, .slice aX LX cX, .bool x.addr] 120) = y := ⟨_, rfl⟩
                        have HBk := Hid.mk' (show Below w9.heap.size w9 wk by rw [← hwk]; exact HB.out.alloc HB.out.size _)
                        obtain ⟨J, hJ⟩ : ∃ J, wo.heap.size = J := ⟨_, rfl⟩
                        have j0 : wk.cell? ⟨J, 0, none⟩ = some (.string x.path) := by rw [← hwk, ← hJ]; exact World.cell?_alloc_new _ _ _ 0
                        have j3 : wk.cell? ⟨J, 3, none⟩ = some (.slice aX LX cX) := by rw [← hwk, ← hJ]; exact World.cell?_alloc_new _ _ _ 3
                        have j4 : wk.cell? ⟨J, 4, none⟩ = some (.bool x.addr) := by rw [← hwk, ← hJ]; exact World.cell?_alloc_new _ _ _ 4
                        have jl : J < wk.heap.size := by rw [← hwk, ← hJ]; simp
                        rw [hwk, hJ]
                        clear hwk hJ g0 g1 g2 g3 g4 yr xr
                        go_loopw [14, 17] (fun c i wl => ∃ (j p : Nat), j ≤ LX ∧ i = .int .i64 j ∧ c = .int .i64 p ∧ p ≤ LT ∧ Hid (p = q + j) ∧ Hid (Below wk.heap.size wk wl)) (fun _ i _ => LX - (intOf i).toNat)
                        case atStart => exact ⟨0, q, Nat.zero_le _, rfl, rfl, hq, rfl, Below.refl _ _⟩
                        case round =>
                          obtain ⟨j, p, hj, rfl, rfl, hp, HP, HB1⟩ := hrel
                          have HB2 := Hid.mk' (show Below w9.heap.size w9 wr from HBk.out.trans (HB1.out.mono HBk.out.size))
                          have r3 : wr.cell? ⟨J, 3, none⟩ = some (.slice aX LX cX) := by rw [HB1.out.cell (p := ⟨J, 3, none⟩) jl]; exact j3
                          by_cases hjt : j < LX
                          · obtain ⟨rfl, hbX⟩ := AX.out.1 (by omega)
                            obtain ⟨X, hX⟩ : ∃ X, x.assets[j]? = some X := ⟨_, List.getElem?_eq_getElem (by rw [NLX.out]; exact hjt)⟩
                            have gX := AX.out.2 j X hX
                            rw [← HB2.out.cell (p := ⟨bX, oX + j, none⟩) hbX] at gX
                            have hget := assetsAll_get HX.out hX
                            rw [← HQ.out, ← HP.out] at hget
                            have hpt : p < LT := by rw [← NLT.out]; exact len_of hget
                            obtain ⟨rfl, hbA⟩ := AA.out.1 (by omega)
                            obtain ⟨p0, p1, p2⟩ := AA.out.2 p _ hget
                            rw [← HB2.out.cell (p := ⟨bA, oA + p * 3, none⟩) hbA] at p0
                            rw [← HB2.out.cell (p := ⟨bA, oA + p * 3 + 1, none⟩) hbA] at p1
                            rw [← HB2.out.cell (p := ⟨bA, oA + p * 3 + 2, none⟩) hbA] at p2
                            dsimp only at p0 p1 p2
                            clear hget hX
                            have r0 : wr.cell? ⟨J, 0, none⟩ = some (.string x.path) := by rw [HB1.out.cell (p := ⟨J, 0, none⟩) jl]; exact j0
                            have r4 : wr.cell? ⟨J, 4, none⟩ = some (.bool x.addr) := by rw [HB1.out.cell (p := ⟨J, 4, none⟩) jl]; exact j4
                            have xr : wr.cell? ⟨H, 18, none⟩ = some (.slice (some ⟨bA, oA, none⟩) LT cA) := by rw [HB2.out.cell (p := ⟨H, 18, none⟩) hl]; exact x18
                            have jlr : J < wr.heap.size := Nat.lt_of_lt_of_le jl HB1.out.size
                            have blr : bX < wr.heap.size := Nat.lt_of_lt_of_le hbX HB2.out.size
                            have hjt' : (j : Int) < (LX : Int) := by omega
                            have hj0 : (0 : Int) ≤ (j : Int) := by omega
                            have hpt' : (p : Int) < (LT : Int) := by omega
                            have hpt2 : ¬ (LT : Int) ≤ (p : Int) := by omega
                            have hp0 : (0 : Int) ≤ (p : Int) := by omega
                            go_wp2
                            go_quiet (fail)
                            go_wp2
                            go_roundw
                            case rel => exact ⟨j + 1, p + 1, by omega, by go_num, by go_num, by omega, Hid.mk' (by rw [HP.out]; omega), below_drewN (HB1.out.alloc HB1.out.size _) _⟩
                            case measure => go_light; simp [intOf]; omega
                          · have hjt' : ¬ (j : Int) < (LX : Int) := by omega
                            have HQ2 := Hid.mk' (show p = (assetsAll (e.F.take (k + 1))).length by rw [assetsAll_take HX.out, List.length_append, assetsOf_len, NLX.out, HP.out, HQ.out]; omega)
                            go_wp2
                            go_roundw
                            case rel => exact ⟨k + 1, p, by omega, by go_num, rfl, hp, HQ2.out, HB2.out⟩
                            case measure => go_light; simp [intOf]; omega
                      · have hlt' : ¬ (k : Int) < (L15 : Int) := by omega
                        have hqL : q = LT := by
                          have h1 := HQ.out
                          rw [List.take_of_length_le (by rw [NL15.out]; omega), NLT.out] at h1
                          exact h1
                        subst hqL
                        go_wp2
                        go_ret
                        exact ⟨by simp, B9.out.trans (HB.out.mono B9.out.size)⟩
end Go.Proofs.Qxb6616617a.W
