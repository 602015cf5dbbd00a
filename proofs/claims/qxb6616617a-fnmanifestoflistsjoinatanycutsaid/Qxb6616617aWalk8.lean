/-
  The second law, FnManifestOfListsJoinAtAnyCut (function 8 of the dump), walked to its end: it says yes at every argument.
  Written by gen8.py (beside it in wip).
-/
import Derived.Test.Qxb6616617aParts
import Derived.Test.Qxb6616617aHalf
import Derived.Test.Qxb6616617aSmall8
import Derived.Test.Qxb6616617aMan32
import Derived.Test.Qxb6616617aBytes25
import Derived.Test.Qxb6616617aOver21
import Derived.Test.Qxb6616617aToExt22
import Derived.Deep.Light
import Derived.Deep.RegionHeld3
import Derived.Deep.Cut
import Derived.Deep.CutRange
namespace Go.Proofs.Qxb6616617a.W
open Go.ChangeShapes Go.WideShapes Go.ChangeAt Go.RowKit
set_option linter.unusedVariables false

set_option maxRecDepth 100000 in
set_option maxHeartbeats 16000000 in
theorem walk8 (e : E) (s : Sl) (c : Int) (w : World) (h : e.Lies w) (hwf : e.Wf) (hs : s.Of e) (cT : Cap e.v7) (cG : Cap e.v8) (cC : Cap e.v11) :
    Calls Try.prog 8 #[.agg e.cells, .int .i64 c] w fun x w' => x = .returned (.bool true) ∧ Below w.heap.size w w' := by
  have b0 : Below w.heap.size w (w.alloc (.cells e.cells 70)) := (Below.refl _ _).alloc (Nat.le_refl _) _
  have H20 := Hid.mk' (bytes25 e c _ (h.below b0) hwf)
  have d0 : (w.alloc (.cells e.cells 70)).cell? ⟨w.heap.size, 0, none⟩ = some (.string e.s0) := World.cell?_alloc_new _ _ _ 0
  have d1 : (w.alloc (.cells e.cells 70)).cell? ⟨w.heap.size, 1, none⟩ = some (.string e.s1) := World.cell?_alloc_new _ _ _ 1
  have d2 : (w.alloc (.cells e.cells 70)).cell? ⟨w.heap.size, 2, none⟩ = some (.string e.s2) := World.cell?_alloc_new _ _ _ 2
  have d3 : (w.alloc (.cells e.cells 70)).cell? ⟨w.heap.size, 3, none⟩ = some (.string e.s3) := World.cell?_alloc_new _ _ _ 3
  have d4 : (w.alloc (.cells e.cells 70)).cell? ⟨w.heap.size, 4, none⟩ = some (.string e.s4) := World.cell?_alloc_new _ _ _ 4
  have d5 : (w.alloc (.cells e.cells 70)).cell? ⟨w.heap.size, 5, none⟩ = some (.string e.s5) := World.cell?_alloc_new _ _ _ 5
  have d6 : (w.alloc (.cells e.cells 70)).cell? ⟨w.heap.size, 6, none⟩ = some (.string e.s6) := World.cell?_alloc_new _ _ _ 6
  have d7 : (w.alloc (.cells e.cells 70)).cell? ⟨w.heap.size, 7, none⟩ = some (e.v7) := World.cell?_alloc_new _ _ _ 7
  have d8 : (w.alloc (.cells e.cells 70)).cell? ⟨w.heap.size, 8, none⟩ = some (e.v8) := World.cell?_alloc_new _ _ _ 8
  have d9 : (w.alloc (.cells e.cells 70)).cell? ⟨w.heap.size, 9, none⟩ = some (e.v9) := World.cell?_alloc_new _ _ _ 9
  have d10 : (w.alloc (.cells e.cells 70)).cell? ⟨w.heap.size, 10, none⟩ = some (e.v10) := World.cell?_alloc_new _ _ _ 10
  have d11 : (w.alloc (.cells e.cells 70)).cell? ⟨w.heap.size, 11, none⟩ = some (e.v11) := World.cell?_alloc_new _ _ _ 11
  have d12 : (w.alloc (.cells e.cells 70)).cell? ⟨w.heap.size, 12, none⟩ = some (e.v12) := World.cell?_alloc_new _ _ _ 12
  have d13 : (w.alloc (.cells e.cells 70)).cell? ⟨w.heap.size, 13, none⟩ = some (e.v13) := World.cell?_alloc_new _ _ _ 13
  have d14 : (w.alloc (.cells e.cells 70)).cell? ⟨w.heap.size, 14, none⟩ = some (e.v14) := World.cell?_alloc_new _ _ _ 14
  have d15 : (w.alloc (.cells e.cells 70)).cell? ⟨w.heap.size, 15, none⟩ = some (e.v15) := World.cell?_alloc_new _ _ _ 15
  have cN0 := Hid.mk' (show ∀ i, i < 16 → (w.alloc (.cells e.cells 70)).cell? ⟨w.heap.size, i, none⟩ = e.cells[i]? from fun i _ => World.cell?_alloc_new _ _ _ i)
  have l0 : w.heap.size < (w.alloc (.cells e.cells 70)).heap.size := by simp
  have L0 := Hid.mk' (h.below b0)
  have HW := Hid.mk' hwf
  have HO := Hid.mk' hs
  have CT := Hid.mk' cT
  have CG := Hid.mk' cG
  have CC := Hid.mk' cC
  have B0 := Hid.mk' b0
  clear h hwf cT cG cC b0 hs
  go_enter Try.func8, Try.ntmps8
  go_upto_region 1 with fail
  obtain ⟨wa, hwa⟩ : ∃ wa, w.alloc (.cells e.cells 70) = wa := ⟨_, rfl⟩
  obtain ⟨N, hN⟩ : ∃ N, w.heap.size = N := ⟨_, rfl⟩
  rw [hwa] at d0 d1 d2 d3 d4 d5 d6 d7 d8 d9 d10 d11 d12 d13 d14 d15 cN0 l0 L0 B0 H20
  rw [hN] at d0 d1 d2 d3 d4 d5 d6 d7 d8 d9 d10 d11 d12 d13 d14 d15 cN0 l0
  rw [hwa, hN]
  have HNw := Hid.mk' hN
  clear hwa hN
  go_wp2_with fail
  refine H20.out.mono ?_
  rintro _ w1 ⟨⟨b, rfl, hb⟩, b1⟩
  have B1 := Hid.mk' (show Below w.heap.size w w1 from B0.out.trans (b1.mono B0.out.size))
  have L1 := Hid.mk' (L0.out.below b1)
  have cN1 := Hid.mk' (show ∀ i, i < 16 → w1.cell? ⟨N, i, none⟩ = e.cells[i]? from fun i hi => by rw [b1.cell (p := ⟨N, i, none⟩) l0]; exact cN0.out i hi)
  have l1 : N < w1.heap.size := Nat.lt_of_lt_of_le l0 b1.size
  have HB := Hid.mk' hb
  clear hb b1 l0 L0 cN0 B0 H20 d0 d1 d2 d3 d4 d5 d6 d7 d8 d9 d10 d11 d12 d13 d14 d15
  cases b with
  | false =>
    go_wp2
    go_ret
    exact ⟨rfl, B1.out⟩
  | true =>
    have HS := Hid.mk' (HB.out rfl)
    clear HB
    have H21 := Hid.mk' (over21 e N w1 L1.out HW.out cN1.out)
    go_wp2_with fail
    refine H21.out.mono ?_
    rintro _ wx ⟨⟨b, rfl⟩, hw⟩
    obtain rfl := hw.symm
    clear H21
    cases b with
    | true =>
      go_wp2
      go_ret
      exact ⟨rfl, B1.out⟩
    | false =>
      as_aux_lemma =>
        obtain ⟨L7, HL7⟩ : ∃ L, e.T.length = L := ⟨_, rfl⟩
        have NL7 := Hid.mk' HL7
        have hL7 : L7 ≤ 1048576 := by rw [← HL7]; exact HS.out.T.1
        have hc7 : L7 ≤ s.c7 := by rw [← HL7]; exact HO.out.l7
        have V7 := Hid.mk' (show e.v7 = .slice s.a7 L7 s.c7 by rw [← HL7]; exact HO.out.e7)
        clear HL7
        obtain ⟨L8, HL8⟩ : ∃ L, e.G.length = L := ⟨_, rfl⟩
        have NL8 := Hid.mk' HL8
        have hL8 : L8 ≤ 1048576 := by rw [← HL8]; exact HS.out.G.1
        have hc8 : L8 ≤ s.c8 := by rw [← HL8]; exact HO.out.l8
        have V8 := Hid.mk' (show e.v8 = .slice s.a8 L8 s.c8 by rw [← HL8]; exact HO.out.e8)
        clear HL8
        obtain ⟨L11, HL11⟩ : ∃ L, e.C.length = L := ⟨_, rfl⟩
        have NL11 := Hid.mk' HL11
        have hL11 : L11 ≤ 1048576 := by rw [← HL11]; exact HS.out.C.1
        have hc11 : L11 ≤ s.c11 := by rw [← HL11]; exact HO.out.l11
        have V11 := Hid.mk' (show e.v11 = .slice s.a11 L11 s.c11 by rw [← HL11]; exact HO.out.e11)
        clear HL11
        obtain ⟨L9, HL9⟩ : ∃ L, e.P.length = L := ⟨_, rfl⟩
        have NL9 := Hid.mk' HL9
        have hL9 : L9 ≤ 1048576 := by rw [← HL9]; exact HS.out.P
        have hc9 : L9 ≤ s.c9 := by rw [← HL9]; exact HO.out.l9
        have V9 := Hid.mk' (show e.v9 = .slice s.a9 L9 s.c9 by rw [← HL9]; exact HO.out.e9)
        clear HL9
        obtain ⟨L10, HL10⟩ : ∃ L, e.B.length = L := ⟨_, rfl⟩
        have NL10 := Hid.mk' HL10
        have hL10 : L10 ≤ 1048576 := by rw [← HL10]; exact HS.out.B
        have hc10 : L10 ≤ s.c10 := by rw [← HL10]; exact HO.out.l10
        have V10 := Hid.mk' (show e.v10 = .slice s.a10 L10 s.c10 by rw [← HL10]; exact HO.out.e10)
        clear HL10
        obtain ⟨L12, HL12⟩ : ∃ L, e.Tg.length = L := ⟨_, rfl⟩
        have NL12 := Hid.mk' HL12
        have hL12 : L12 ≤ 1048576 := by rw [← HL12]; exact HS.out.Tg
        have hc12 : L12 ≤ s.c12 := by rw [← HL12]; exact HO.out.l12
        have V12 := Hid.mk' (show e.v12 = .slice s.a12 L12 s.c12 by rw [← HL12]; exact HO.out.e12)
        clear HL12
        obtain ⟨L15, HL15⟩ : ∃ L, e.F.length = L := ⟨_, rfl⟩
        have NL15 := Hid.mk' HL15
        have hL15 : L15 ≤ 1048576 := by rw [← HL15]; exact HS.out.F.1
        have hc15 : L15 ≤ s.c15 := by rw [← HL15]; exact HO.out.l15
        have V15 := Hid.mk' (show e.v15 = .slice s.a15 L15 s.c15 by rw [← HL15]; exact HO.out.e15)
        clear HL15
        obtain ⟨a13, n13, c13, hv13⟩ : ∃ a n c, e.v13 = .slice a n c := by obtain ⟨b, o, ⟨a, c, hv, _⟩, _⟩ := L1.out.I; exact ⟨a, _, c, hv⟩
        obtain ⟨a14, n14, c14, hv14⟩ : ∃ a n c, e.v14 = .slice a n c := by obtain ⟨b, o, ⟨a, c, hv, _⟩, _⟩ := L1.out.M; exact ⟨a, _, c, hv⟩
        have V13 := Hid.mk' hv13
        have V14 := Hid.mk' hv14
        clear hv13 hv14
        have y0 : w1.cell? ⟨N, 0, none⟩ = some (.string e.s0) := cN1.out 0 (by omega)
        have y1 : w1.cell? ⟨N, 1, none⟩ = some (.string e.s1) := cN1.out 1 (by omega)
        have y2 : w1.cell? ⟨N, 2, none⟩ = some (.string e.s2) := cN1.out 2 (by omega)
        have y3 : w1.cell? ⟨N, 3, none⟩ = some (.string e.s3) := cN1.out 3 (by omega)
        have y4 : w1.cell? ⟨N, 4, none⟩ = some (.string e.s4) := cN1.out 4 (by omega)
        have y5 : w1.cell? ⟨N, 5, none⟩ = some (.string e.s5) := cN1.out 5 (by omega)
        have y6 : w1.cell? ⟨N, 6, none⟩ = some (.string e.s6) := cN1.out 6 (by omega)
        have y7 : w1.cell? ⟨N, 7, none⟩ = some (.slice s.a7 L7 s.c7) := by rw [← V7.out]; exact cN1.out 7 (by omega)
        have y8 : w1.cell? ⟨N, 8, none⟩ = some (.slice s.a8 L8 s.c8) := by rw [← V8.out]; exact cN1.out 8 (by omega)
        have y9 : w1.cell? ⟨N, 9, none⟩ = some (.slice s.a9 L9 s.c9) := by rw [← V9.out]; exact cN1.out 9 (by omega)
        have y10 : w1.cell? ⟨N, 10, none⟩ = some (.slice s.a10 L10 s.c10) := by rw [← V10.out]; exact cN1.out 10 (by omega)
        have y11 : w1.cell? ⟨N, 11, none⟩ = some (.slice s.a11 L11 s.c11) := by rw [← V11.out]; exact cN1.out 11 (by omega)
        have y12 : w1.cell? ⟨N, 12, none⟩ = some (.slice s.a12 L12 s.c12) := by rw [← V12.out]; exact cN1.out 12 (by omega)
        have y13 : w1.cell? ⟨N, 13, none⟩ = some (.slice a13 n13 c13) := by rw [← V13.out]; exact cN1.out 13 (by omega)
        have y14 : w1.cell? ⟨N, 14, none⟩ = some (.slice a14 n14 c14) := by rw [← V14.out]; exact cN1.out 14 (by omega)
        have y15 : w1.cell? ⟨N, 15, none⟩ = some (.slice s.a15 L15 s.c15) := by rw [← V15.out]; exact cN1.out 15 (by omega)
        go_upto_region 6 with fail
        as_aux_lemma =>
          go_upto_region 7 with fail
          clear y0 y1 y2 y3 y4 y5 y6 y7 y8 y9 y10 y11 y12 y13 y14 y15
          obtain ⟨q0, hq0⟩ : ∃ y, (w1.alloc (.cells #[.string e.s0, .string e.s1, .string e.s2, .string e.s3, .string e.s4, .string e.s5, .string e.s6, .slice s.a7 L7 s.c7, .slice s.a8 L8 s.c8, .slice s.a9 L9 s.c9, .slice s.a10 L10 s.c10, .slice s.a11 L11 s.c11, .slice s.a12 L12 s.c12, .slice a13 n13 c13, .slice a14 n14 c14, .slice s.a15 L15 s.c15] 70)).alloc (.cells #[.string e.s0, .string e.s1, .string e.s2, .string e.s3, .string e.s4, .string e.s5, .string e.s6, .slice s.a7 L7 s.c7, .slice s.a8 L8 s.c8, .slice s.a9 L9 s.c9, .slice s.a10 L10 s.c10, .slice s.a11 L11 s.c11, .slice s.a12 L12 s.c12, .slice a13 n13 c13, .slice a14 n14 c14, .slice s.a15 L15 s.c15] 70) = y := ⟨_, rfl⟩
          obtain ⟨A, hA⟩ : ∃ y, w1.heap.size = y := ⟨_, rfl⟩
          obtain ⟨B, hB⟩ : ∃ y, A + 1 = y := ⟨_, rfl⟩
          have S0 := Hid.mk' (show St8 w1 q0 A B #[.string e.s0, .string e.s1, .string e.s2, .string e.s3, .string e.s4, .string e.s5, .string e.s6, .slice s.a7 L7 s.c7, .slice s.a8 L8 s.c8, .slice s.a9 L9 s.c9, .slice s.a10 L10 s.c10, .slice s.a11 L11 s.c11, .slice s.a12 L12 s.c12, .slice a13 n13 c13, .slice a14 n14 c14, .slice s.a15 L15 s.c15] #[.string e.s0, .string e.s1, .string e.s2, .string e.s3, .string e.s4, .string e.s5, .string e.s6, .slice s.a7 L7 s.c7, .slice s.a8 L8 s.c8, .slice s.a9 L9 s.c9, .slice s.a10 L10 s.c10, .slice s.a11 L11 s.c11, .slice s.a12 L12 s.c12, .slice a13 n13 c13, .slice a14 n14 c14, .slice s.a15 L15 s.c15] by rw [← hq0, ← hB, ← hA]; exact St8.start _ _)
          rw [hq0, hA, hB]
          have l2 : N < A := by omega
          have l3 : A < B := by omega
          have l4 : A ≠ B := by omega
          have l5 : B ≠ A := by omega
          have l6 : N ≠ A := by omega
          have l7 : N ≠ B := by omega
          have l8 : A ≠ N := by omega
          have l9 : B ≠ N := by omega
          clear hq0 hA hB
          as_aux_lemma =>
            have yN : q0.cell? ⟨N, 7, none⟩ = some (.slice s.a7 L7 s.c7) := by rw [S0.out.below.cell (p := ⟨N, 7, none⟩) l1, ← V7.out]; exact cN1.out 7 (by omega)
            have yA : q0.cell? ⟨A, 7, none⟩ = some (.slice s.a7 L7 s.c7) := S0.out.cellA 7
            have yB : q0.cell? ⟨B, 7, none⟩ = some (.slice s.a7 L7 s.c7) := S0.out.cellB 7
            have zA : q0.frozen? ⟨A, 7, none⟩ = false := S0.out.freeA 7
            have zB : q0.frozen? ⟨B, 7, none⟩ = false := S0.out.freeB 7
            have H26 := Hid.mk' (cut26 c L7 q0 hL7)
            go_wp2_with fail
            refine H26.out.mono ?_
            rintro _ wx ⟨⟨k7, rfl, hk7⟩, hw⟩
            obtain rfl := hw.symm
            clear H26
            have rl := fun W : World => run_left (t := 25) (s := 1) Try.underlying25 (fun w => by go_simp) s.a7 L7 s.c7 k7 hk7 hc7 W
            have rr := fun W : World => run_right (t := 25) (s := 1) Try.underlying25 (fun w => by go_simp) s.a7 L7 s.c7 k7 hk7 hc7 W
            go_upto_region 10 with fail
            obtain ⟨q1, hq⟩ : ∃ y, (q0.setCell ⟨A, 7, none⟩ (.slice s.a7 k7 s.c7)).setCell ⟨B, 7, none⟩ (.slice (tailAt s.a7 k7 s.c7 1) (L7 - k7) (s.c7 - k7)) = y := ⟨_, rfl⟩
            have S1 := Hid.mk' (show St8 w1 q1 A B #[.string e.s0, .string e.s1, .string e.s2, .string e.s3, .string e.s4, .string e.s5, .string e.s6, .slice s.a7 k7 s.c7, .slice s.a8 L8 s.c8, .slice s.a9 L9 s.c9, .slice s.a10 L10 s.c10, .slice s.a11 L11 s.c11, .slice s.a12 L12 s.c12, .slice a13 n13 c13, .slice a14 n14 c14, .slice s.a15 L15 s.c15] #[.string e.s0, .string e.s1, .string e.s2, .string e.s3, .string e.s4, .string e.s5, .string e.s6, .slice (tailAt s.a7 k7 s.c7 1) (L7 - k7) (s.c7 - k7), .slice s.a8 L8 s.c8, .slice s.a9 L9 s.c9, .slice s.a10 L10 s.c10, .slice s.a11 L11 s.c11, .slice s.a12 L12 s.c12, .slice a13 n13 c13, .slice a14 n14 c14, .slice s.a15 L15 s.c15] by rw [← hq]; exact St8.both S0.out 7 _ _)
            rw [hq]
            clear hq rl rr yN yA yB zA zB S0
            as_aux_lemma =>
              have yN : q1.cell? ⟨N, 8, none⟩ = some (.slice s.a8 L8 s.c8) := by rw [S1.out.below.cell (p := ⟨N, 8, none⟩) l1, ← V8.out]; exact cN1.out 8 (by omega)
              have yA : q1.cell? ⟨A, 8, none⟩ = some (.slice s.a8 L8 s.c8) := S1.out.cellA 8
              have yB : q1.cell? ⟨B, 8, none⟩ = some (.slice s.a8 L8 s.c8) := S1.out.cellB 8
              have zA : q1.frozen? ⟨A, 8, none⟩ = false := S1.out.freeA 8
              have zB : q1.frozen? ⟨B, 8, none⟩ = false := S1.out.freeB 8
              have H26 := Hid.mk' (cut26 c L8 q1 hL8)
              go_wp2_with fail
              refine H26.out.mono ?_
              rintro _ wx ⟨⟨k8, rfl, hk8⟩, hw⟩
              obtain rfl := hw.symm
              clear H26
              have rl := fun W : World => run_left (t := 25) (s := 1) Try.underlying25 (fun w => by go_simp) s.a8 L8 s.c8 k8 hk8 hc8 W
              have rr := fun W : World => run_right (t := 25) (s := 1) Try.underlying25 (fun w => by go_simp) s.a8 L8 s.c8 k8 hk8 hc8 W
              go_upto_region 13 with fail
              obtain ⟨q2, hq⟩ : ∃ y, (q1.setCell ⟨A, 8, none⟩ (.slice s.a8 k8 s.c8)).setCell ⟨B, 8, none⟩ (.slice (tailAt s.a8 k8 s.c8 1) (L8 - k8) (s.c8 - k8)) = y := ⟨_, rfl⟩
              have S2 := Hid.mk' (show St8 w1 q2 A B #[.string e.s0, .string e.s1, .string e.s2, .string e.s3, .string e.s4, .string e.s5, .string e.s6, .slice s.a7 k7 s.c7, .slice s.a8 k8 s.c8, .slice s.a9 L9 s.c9, .slice s.a10 L10 s.c10, .slice s.a11 L11 s.c11, .slice s.a12 L12 s.c12, .slice a13 n13 c13, .slice a14 n14 c14, .slice s.a15 L15 s.c15] #[.string e.s0, .string e.s1, .string e.s2, .string e.s3, .string e.s4, .string e.s5, .string e.s6, .slice (tailAt s.a7 k7 s.c7 1) (L7 - k7) (s.c7 - k7), .slice (tailAt s.a8 k8 s.c8 1) (L8 - k8) (s.c8 - k8), .slice s.a9 L9 s.c9, .slice s.a10 L10 s.c10, .slice s.a11 L11 s.c11, .slice s.a12 L12 s.c12, .slice a13 n13 c13, .slice a14 n14 c14, .slice s.a15 L15 s.c15] by rw [← hq]; exact St8.both S1.out 8 _ _)
              rw [hq]
              clear hq rl rr yN yA yB zA zB S1
              as_aux_lemma =>
                have yN : q2.cell? ⟨N, 11, none⟩ = some (.slice s.a11 L11 s.c11) := by rw [S2.out.below.cell (p := ⟨N, 11, none⟩) l1, ← V11.out]; exact cN1.out 11 (by omega)
                have yA : q2.cell? ⟨A, 11, none⟩ = some (.slice s.a11 L11 s.c11) := S2.out.cellA 11
                have yB : q2.cell? ⟨B, 11, none⟩ = some (.slice s.a11 L11 s.c11) := S2.out.cellB 11
                have zA : q2.frozen? ⟨A, 11, none⟩ = false := S2.out.freeA 11
                have zB : q2.frozen? ⟨B, 11, none⟩ = false := S2.out.freeB 11
                have H26 := Hid.mk' (cut26 c L11 q2 hL11)
                go_wp2_with fail
                refine H26.out.mono ?_
                rintro _ wx ⟨⟨k11, rfl, hk11⟩, hw⟩
                obtain rfl := hw.symm
                clear H26
                have rl := fun W : World => run_left (t := 25) (s := 1) Try.underlying25 (fun w => by go_simp) s.a11 L11 s.c11 k11 hk11 hc11 W
                have rr := fun W : World => run_right (t := 25) (s := 1) Try.underlying25 (fun w => by go_simp) s.a11 L11 s.c11 k11 hk11 hc11 W
                go_upto_region 16 with fail
                obtain ⟨q3, hq⟩ : ∃ y, (q2.setCell ⟨A, 11, none⟩ (.slice s.a11 k11 s.c11)).setCell ⟨B, 11, none⟩ (.slice (tailAt s.a11 k11 s.c11 1) (L11 - k11) (s.c11 - k11)) = y := ⟨_, rfl⟩
                have S3 := Hid.mk' (show St8 w1 q3 A B #[.string e.s0, .string e.s1, .string e.s2, .string e.s3, .string e.s4, .string e.s5, .string e.s6, .slice s.a7 k7 s.c7, .slice s.a8 k8 s.c8, .slice s.a9 L9 s.c9, .slice s.a10 L10 s.c10, .slice s.a11 k11 s.c11, .slice s.a12 L12 s.c12, .slice a13 n13 c13, .slice a14 n14 c14, .slice s.a15 L15 s.c15] #[.string e.s0, .string e.s1, .string e.s2, .string e.s3, .string e.s4, .string e.s5, .string e.s6, .slice (tailAt s.a7 k7 s.c7 1) (L7 - k7) (s.c7 - k7), .slice (tailAt s.a8 k8 s.c8 1) (L8 - k8) (s.c8 - k8), .slice s.a9 L9 s.c9, .slice s.a10 L10 s.c10, .slice (tailAt s.a11 k11 s.c11 1) (L11 - k11) (s.c11 - k11), .slice s.a12 L12 s.c12, .slice a13 n13 c13, .slice a14 n14 c14, .slice s.a15 L15 s.c15] by rw [← hq]; exact St8.both S2.out 11 _ _)
                rw [hq]
                clear hq rl rr yN yA yB zA zB S2
                as_aux_lemma =>
                  have yN : q3.cell? ⟨N, 9, none⟩ = some (.slice s.a9 L9 s.c9) := by rw [S3.out.below.cell (p := ⟨N, 9, none⟩) l1, ← V9.out]; exact cN1.out 9 (by omega)
                  have yA : q3.cell? ⟨A, 9, none⟩ = some (.slice s.a9 L9 s.c9) := S3.out.cellA 9
                  have yB : q3.cell? ⟨B, 9, none⟩ = some (.slice s.a9 L9 s.c9) := S3.out.cellB 9
                  have zA : q3.frozen? ⟨A, 9, none⟩ = false := S3.out.freeA 9
                  have zB : q3.frozen? ⟨B, 9, none⟩ = false := S3.out.freeB 9
                  have H26 := Hid.mk' (cut26 c L9 q3 hL9)
                  go_wp2_with fail
                  refine H26.out.mono ?_
                  rintro _ wx ⟨⟨k9, rfl, hk9⟩, hw⟩
                  obtain rfl := hw.symm
                  clear H26
                  have rl := fun W : World => run_left (t := 64) (s := 2) Try.underlying64 (fun w => by go_simp) s.a9 L9 s.c9 k9 hk9 hc9 W
                  have rr := fun W : World => run_right (t := 64) (s := 2) Try.underlying64 (fun w => by go_simp) s.a9 L9 s.c9 k9 hk9 hc9 W
                  go_upto_region 19 with fail
                  obtain ⟨q4, hq⟩ : ∃ y, (q3.setCell ⟨A, 9, none⟩ (.slice s.a9 k9 s.c9)).setCell ⟨B, 9, none⟩ (.slice (tailAt s.a9 k9 s.c9 2) (L9 - k9) (s.c9 - k9)) = y := ⟨_, rfl⟩
                  have S4 := Hid.mk' (show St8 w1 q4 A B #[.string e.s0, .string e.s1, .string e.s2, .string e.s3, .string e.s4, .string e.s5, .string e.s6, .slice s.a7 k7 s.c7, .slice s.a8 k8 s.c8, .slice s.a9 k9 s.c9, .slice s.a10 L10 s.c10, .slice s.a11 k11 s.c11, .slice s.a12 L12 s.c12, .slice a13 n13 c13, .slice a14 n14 c14, .slice s.a15 L15 s.c15] #[.string e.s0, .string e.s1, .string e.s2, .string e.s3, .string e.s4, .string e.s5, .string e.s6, .slice (tailAt s.a7 k7 s.c7 1) (L7 - k7) (s.c7 - k7), .slice (tailAt s.a8 k8 s.c8 1) (L8 - k8) (s.c8 - k8), .slice (tailAt s.a9 k9 s.c9 2) (L9 - k9) (s.c9 - k9), .slice s.a10 L10 s.c10, .slice (tailAt s.a11 k11 s.c11 1) (L11 - k11) (s.c11 - k11), .slice s.a12 L12 s.c12, .slice a13 n13 c13, .slice a14 n14 c14, .slice s.a15 L15 s.c15] by rw [← hq]; exact St8.both S3.out 9 _ _)
                  rw [hq]
                  clear hq rl rr yN yA yB zA zB S3
                  as_aux_lemma =>
                    have yN : q4.cell? ⟨N, 10, none⟩ = some (.slice s.a10 L10 s.c10) := by rw [S4.out.below.cell (p := ⟨N, 10, none⟩) l1, ← V10.out]; exact cN1.out 10 (by omega)
                    have yA : q4.cell? ⟨A, 10, none⟩ = some (.slice s.a10 L10 s.c10) := S4.out.cellA 10
                    have yB : q4.cell? ⟨B, 10, none⟩ = some (.slice s.a10 L10 s.c10) := S4.out.cellB 10
                    have zA : q4.frozen? ⟨A, 10, none⟩ = false := S4.out.freeA 10
                    have zB : q4.frozen? ⟨B, 10, none⟩ = false := S4.out.freeB 10
                    have H26 := Hid.mk' (cut26 c L10 q4 hL10)
                    go_wp2_with fail
                    refine H26.out.mono ?_
                    rintro _ wx ⟨⟨k10, rfl, hk10⟩, hw⟩
                    obtain rfl := hw.symm
                    clear H26
                    have rl := fun W : World => run_left (t := 65) (s := 3) Try.underlying65 (fun w => by go_simp) s.a10 L10 s.c10 k10 hk10 hc10 W
                    have rr := fun W : World => run_right (t := 65) (s := 3) Try.underlying65 (fun w => by go_simp) s.a10 L10 s.c10 k10 hk10 hc10 W
                    go_upto_region 22 with fail
                    obtain ⟨q5, hq⟩ : ∃ y, (q4.setCell ⟨A, 10, none⟩ (.slice s.a10 k10 s.c10)).setCell ⟨B, 10, none⟩ (.slice (tailAt s.a10 k10 s.c10 3) (L10 - k10) (s.c10 - k10)) = y := ⟨_, rfl⟩
                    have S5 := Hid.mk' (show St8 w1 q5 A B #[.string e.s0, .string e.s1, .string e.s2, .string e.s3, .string e.s4, .string e.s5, .string e.s6, .slice s.a7 k7 s.c7, .slice s.a8 k8 s.c8, .slice s.a9 k9 s.c9, .slice s.a10 k10 s.c10, .slice s.a11 k11 s.c11, .slice s.a12 L12 s.c12, .slice a13 n13 c13, .slice a14 n14 c14, .slice s.a15 L15 s.c15] #[.string e.s0, .string e.s1, .string e.s2, .string e.s3, .string e.s4, .string e.s5, .string e.s6, .slice (tailAt s.a7 k7 s.c7 1) (L7 - k7) (s.c7 - k7), .slice (tailAt s.a8 k8 s.c8 1) (L8 - k8) (s.c8 - k8), .slice (tailAt s.a9 k9 s.c9 2) (L9 - k9) (s.c9 - k9), .slice (tailAt s.a10 k10 s.c10 3) (L10 - k10) (s.c10 - k10), .slice (tailAt s.a11 k11 s.c11 1) (L11 - k11) (s.c11 - k11), .slice s.a12 L12 s.c12, .slice a13 n13 c13, .slice a14 n14 c14, .slice s.a15 L15 s.c15] by rw [← hq]; exact St8.both S4.out 10 _ _)
                    rw [hq]
                    clear hq rl rr yN yA yB zA zB S4
                    as_aux_lemma =>
                      have yN : q5.cell? ⟨N, 12, none⟩ = some (.slice s.a12 L12 s.c12) := by rw [S5.out.below.cell (p := ⟨N, 12, none⟩) l1, ← V12.out]; exact cN1.out 12 (by omega)
                      have yA : q5.cell? ⟨A, 12, none⟩ = some (.slice s.a12 L12 s.c12) := S5.out.cellA 12
                      have yB : q5.cell? ⟨B, 12, none⟩ = some (.slice s.a12 L12 s.c12) := S5.out.cellB 12
                      have zA : q5.frozen? ⟨A, 12, none⟩ = false := S5.out.freeA 12
                      have zB : q5.frozen? ⟨B, 12, none⟩ = false := S5.out.freeB 12
                      have H26 := Hid.mk' (cut26 c L12 q5 hL12)
                      go_wp2_with fail
                      refine H26.out.mono ?_
                      rintro _ wx ⟨⟨k12, rfl, hk12⟩, hw⟩
                      obtain rfl := hw.symm
                      clear H26
                      have rl := fun W : World => run_left (t := 66) (s := 2) Try.underlying66 (fun w => by go_simp) s.a12 L12 s.c12 k12 hk12 hc12 W
                      have rr := fun W : World => run_right (t := 66) (s := 2) Try.underlying66 (fun w => by go_simp) s.a12 L12 s.c12 k12 hk12 hc12 W
                      go_upto_region 25 with fail
                      obtain ⟨q6, hq⟩ : ∃ y, (q5.setCell ⟨A, 12, none⟩ (.slice s.a12 k12 s.c12)).setCell ⟨B, 12, none⟩ (.slice (tailAt s.a12 k12 s.c12 2) (L12 - k12) (s.c12 - k12)) = y := ⟨_, rfl⟩
                      have S6 := Hid.mk' (show St8 w1 q6 A B #[.string e.s0, .string e.s1, .string e.s2, .string e.s3, .string e.s4, .string e.s5, .string e.s6, .slice s.a7 k7 s.c7, .slice s.a8 k8 s.c8, .slice s.a9 k9 s.c9, .slice s.a10 k10 s.c10, .slice s.a11 k11 s.c11, .slice s.a12 k12 s.c12, .slice a13 n13 c13, .slice a14 n14 c14, .slice s.a15 L15 s.c15] #[.string e.s0, .string e.s1, .string e.s2, .string e.s3, .string e.s4, .string e.s5, .string e.s6, .slice (tailAt s.a7 k7 s.c7 1) (L7 - k7) (s.c7 - k7), .slice (tailAt s.a8 k8 s.c8 1) (L8 - k8) (s.c8 - k8), .slice (tailAt s.a9 k9 s.c9 2) (L9 - k9) (s.c9 - k9), .slice (tailAt s.a10 k10 s.c10 3) (L10 - k10) (s.c10 - k10), .slice (tailAt s.a11 k11 s.c11 1) (L11 - k11) (s.c11 - k11), .slice (tailAt s.a12 k12 s.c12 2) (L12 - k12) (s.c12 - k12), .slice a13 n13 c13, .slice a14 n14 c14, .slice s.a15 L15 s.c15] by rw [← hq]; exact St8.both S5.out 12 _ _)
                      rw [hq]
                      clear hq rl rr yN yA yB zA zB S5
                      as_aux_lemma =>
                        have yN : q6.cell? ⟨N, 15, none⟩ = some (.slice s.a15 L15 s.c15) := by rw [S6.out.below.cell (p := ⟨N, 15, none⟩) l1, ← V15.out]; exact cN1.out 15 (by omega)
                        have yA : q6.cell? ⟨A, 15, none⟩ = some (.slice s.a15 L15 s.c15) := S6.out.cellA 15
                        have yB : q6.cell? ⟨B, 15, none⟩ = some (.slice s.a15 L15 s.c15) := S6.out.cellB 15
                        have zA : q6.frozen? ⟨A, 15, none⟩ = false := S6.out.freeA 15
                        have zB : q6.frozen? ⟨B, 15, none⟩ = false := S6.out.freeB 15
                        have H26 := Hid.mk' (cut26 c L15 q6 hL15)
                        go_wp2_with fail
                        refine H26.out.mono ?_
                        rintro _ wx ⟨⟨k15, rfl, hk15⟩, hw⟩
                        obtain rfl := hw.symm
                        clear H26
                        have rl := fun W : World => run_left (t := 68) (s := 5) Try.underlying68 (fun w => by go_simp) s.a15 L15 s.c15 k15 hk15 hc15 W
                        have rr := fun W : World => run_right (t := 68) (s := 5) Try.underlying68 (fun w => by go_simp) s.a15 L15 s.c15 k15 hk15 hc15 W
                        go_upto_region 28 with fail
                        obtain ⟨q7, hq⟩ : ∃ y, (q6.setCell ⟨A, 15, none⟩ (.slice s.a15 k15 s.c15)).setCell ⟨B, 15, none⟩ (.slice (tailAt s.a15 k15 s.c15 5) (L15 - k15) (s.c15 - k15)) = y := ⟨_, rfl⟩
                        have S7 := Hid.mk' (show St8 w1 q7 A B #[.string e.s0, .string e.s1, .string e.s2, .string e.s3, .string e.s4, .string e.s5, .string e.s6, .slice s.a7 k7 s.c7, .slice s.a8 k8 s.c8, .slice s.a9 k9 s.c9, .slice s.a10 k10 s.c10, .slice s.a11 k11 s.c11, .slice s.a12 k12 s.c12, .slice a13 n13 c13, .slice a14 n14 c14, .slice s.a15 k15 s.c15] #[.string e.s0, .string e.s1, .string e.s2, .string e.s3, .string e.s4, .string e.s5, .string e.s6, .slice (tailAt s.a7 k7 s.c7 1) (L7 - k7) (s.c7 - k7), .slice (tailAt s.a8 k8 s.c8 1) (L8 - k8) (s.c8 - k8), .slice (tailAt s.a9 k9 s.c9 2) (L9 - k9) (s.c9 - k9), .slice (tailAt s.a10 k10 s.c10 3) (L10 - k10) (s.c10 - k10), .slice (tailAt s.a11 k11 s.c11 1) (L11 - k11) (s.c11 - k11), .slice (tailAt s.a12 k12 s.c12 2) (L12 - k12) (s.c12 - k12), .slice a13 n13 c13, .slice a14 n14 c14, .slice (tailAt s.a15 k15 s.c15 5) (L15 - k15) (s.c15 - k15)] by rw [← hq]; exact St8.both S6.out 15 _ _)
                        rw [hq]
                        clear hq rl rr yN yA yB zA zB S6
                        as_aux_lemma =>
                          obtain ⟨k, hk⟩ : ∃ k : Ks, k = ⟨k7, k8, k11, k9, k10, k12, k15⟩ := ⟨_, rfl⟩
                          have HK := Hid.mk' (show k.Le e by rw [hk]; exact ⟨by rw [NL7.out]; exact hk7, by rw [NL8.out]; exact hk8, by rw [NL11.out]; exact hk11, by rw [NL9.out]; exact hk9, by rw [NL10.out]; exact hk10, by rw [NL12.out]; exact hk12, by rw [NL15.out]; exact hk15⟩)
                          obtain ⟨eL, heL⟩ : ∃ x, x = e.left s k := ⟨_, rfl⟩
                          obtain ⟨eR, heR⟩ : ∃ x, x = e.right s k := ⟨_, rfl⟩
                          have LW := Hid.mk' (L1.out.below S7.out.below)
                          have LLf := Hid.mk' (show eL.Lies q7 by rw [heL]; exact E.left_lies LW.out HO.out HK.out)
                          have LRt := Hid.mk' (show eR.Lies q7 by rw [heR]; exact E.right_lies LW.out HO.out HK.out)
                          have WL := Hid.mk' (show eL.Wf by rw [heL]; exact E.left_wf HW.out)
                          have WR := Hid.mk' (show eR.Wf by rw [heR]; exact E.right_wf HW.out)
                          have SL := Hid.mk' (show eL.Small by rw [heL]; exact E.left_small HS.out)
                          have SR := Hid.mk' (show eR.Small by rw [heR]; exact E.right_small HS.out)
                          have KL := Hid.mk' (show Cap eL.v7 ∧ Cap eL.v8 ∧ Cap eL.v11 by rw [heL]; exact E.left_caps HO.out HK.out)
                          have KR := Hid.mk' (show Cap eR.v7 ∧ Cap eR.v8 ∧ Cap eR.v11 by rw [heR]; exact E.right_caps HO.out HK.out)
                          have KW := Hid.mk' (show Cap e.v7 ∧ Cap e.v8 ∧ Cap e.v11 from ⟨CT.out, CG.out, CC.out⟩)
                          have cW := Hid.mk' (show ∀ i, i < 16 → q7.cell? ⟨N, i, none⟩ = e.cells[i]? from fun i hi => by rw [S7.out.below.cell (p := ⟨N, i, none⟩) l1]; exact cN1.out i hi)
                          have cL := Hid.mk' (show ∀ i, i < 16 → q7.cell? ⟨A, i, none⟩ = eL.cells[i]? from fun i hi => by rw [S7.out.cellA i, heL, hk]; simp only [E.cells, E.left, V13.out, V14.out])
                          have cR := Hid.mk' (show ∀ i, i < 16 → q7.cell? ⟨B, i, none⟩ = eR.cells[i]? from fun i hi => by rw [S7.out.cellB i, heR, hk]; simp only [E.cells, E.right, V13.out, V14.out, NL7.out, NL8.out, NL9.out, NL10.out, NL11.out, NL12.out, NL15.out])
                          have lN : N < q7.heap.size := by have := S7.out.lt; omega
                          have lA : A < q7.heap.size := by have := S7.out.lt; omega
                          have lB : B < q7.heap.size := S7.out.lt
                          have BW := Hid.mk' (show Below w.heap.size w q7 from B1.out.trans (S7.out.below.mono B1.out.size))
                          have HEL := Hid.mk' heL
                          have HER := Hid.mk' heR
                          have HKE := Hid.mk' hk
                          clear heL heR hk S7 L1 cN1 B1 l1 CT CG CC V13 V14
                          as_aux_lemma =>
                            have H22 := Hid.mk' (toExt22 e N q7 LW.out HW.out HS.out cW.out lN)
                            go_wp2_with fail
                            refine H22.out.mono ?_
                            rintro _ w2 ⟨vP, vB, vT, vJ, vF, rfl, qP, qB, qT, qJ, qF, b2⟩
                            obtain ⟨a7, n7, c7, hv7⟩ : ∃ a n c, e.v7 = .slice a n c := by obtain ⟨b, o, ⟨a, c, hv, _⟩, _⟩ := LW.out.T; exact ⟨a, _, c, hv⟩
                            obtain ⟨a8, n8, c8, hv8⟩ : ∃ a n c, e.v8 = .slice a n c := by obtain ⟨b, o, ⟨a, c, hv, _⟩, _⟩ := LW.out.G; exact ⟨a, _, c, hv⟩
                            obtain ⟨a11, n11, c11, hv11⟩ : ∃ a n c, e.v11 = .slice a n c := by obtain ⟨b, o, ⟨a, c, hv, _⟩, _⟩ := LW.out.C; exact ⟨a, _, c, hv⟩
                            obtain ⟨a14, n14, c14, hv14⟩ : ∃ a n c, e.v14 = .slice a n c := by obtain ⟨b, o, ⟨a, c, hv, _⟩, _⟩ := LW.out.M; exact ⟨a, _, c, hv⟩
                            obtain ⟨avP, nvP, cvP, rfl⟩ : ∃ a n c, vP = .slice a n c := by obtain ⟨b, o, ⟨a, c, hv, _⟩, _⟩ := qP; exact ⟨a, _, c, hv⟩
                            obtain ⟨avB, nvB, cvB, rfl⟩ : ∃ a n c, vB = .slice a n c := by obtain ⟨b, o, ⟨a, c, hv, _⟩, _⟩ := qB; exact ⟨a, _, c, hv⟩
                            obtain ⟨avT, nvT, cvT, rfl⟩ : ∃ a n c, vT = .slice a n c := by obtain ⟨b, o, ⟨a, c, hv, _⟩, _⟩ := qT; exact ⟨a, _, c, hv⟩
                            obtain ⟨avF, nvF, cvF, rfl⟩ : ∃ a n c, vF = .slice a n c := by obtain ⟨b, o, ⟨a, c, hv, _⟩, _⟩ := qF; exact ⟨a, _, c, hv⟩
                            obtain ⟨ja, jn, jc, rfl⟩ := qJ
                            rw [hv7, hv8, hv11, hv14]
                            go_upto_region 29 with fail
                            have b3 : Below q7.heap.size q7 (w2.alloc (.cells #[.string e.s0, .string e.s1, .string e.s2, .string e.s3, .string e.s4, .string e.s5, .string e.s6, .slice a7 n7 c7, .slice a8 n8 c8, .slice avP nvP cvP, .slice avB nvB cvB, .slice a11 n11 c11, .slice avT nvT cvT, .slice ja jn jc, .slice a14 n14 c14, .slice avF nvF cvF] 80)) := b2.alloc b2.size _
                            have b4 : Below w2.heap.size w2 (w2.alloc (.cells #[.string e.s0, .string e.s1, .string e.s2, .string e.s3, .string e.s4, .string e.s5, .string e.s6, .slice a7 n7 c7, .slice a8 n8 c8, .slice avP nvP cvP, .slice avB nvB cvB, .slice a11 n11 c11, .slice avT nvT cvT, .slice ja jn jc, .slice a14 n14 c14, .slice avF nvF cvF] 80)) := (Below.refl _ _).alloc (Nat.le_refl _) _
                            have L3 := LW.out.below b3
                            have HE := Hid.mk' (show Held e w2.heap.size (w2.alloc (.cells #[.string e.s0, .string e.s1, .string e.s2, .string e.s3, .string e.s4, .string e.s5, .string e.s6, .slice a7 n7 c7, .slice a8 n8 c8, .slice avP nvP cvP, .slice avB nvB cvB, .slice a11 n11 c11, .slice avT nvT cvT, .slice ja jn jc, .slice a14 n14 c14, .slice avF nvF cvF] 80)) (.slice avP nvP cvP) (.slice avB nvB cvB) (.slice avT nvT cvT) (.slice avF nvF cvF) from ⟨World.cell?_alloc_new _ _ _ 0, World.cell?_alloc_new _ _ _ 1, World.cell?_alloc_new _ _ _ 2, World.cell?_alloc_new _ _ _ 3, World.cell?_alloc_new _ _ _ 4, World.cell?_alloc_new _ _ _ 5, World.cell?_alloc_new _ _ _ 6, by rw [hv7]; exact World.cell?_alloc_new _ _ _ 7, by rw [hv8]; exact World.cell?_alloc_new _ _ _ 8, World.cell?_alloc_new _ _ _ 9, World.cell?_alloc_new _ _ _ 10, by rw [hv11]; exact World.cell?_alloc_new _ _ _ 11, World.cell?_alloc_new _ _ _ 12, World.cell?_alloc_new _ _ _ 15, L3.T, L3.G, L3.C, KW.out.1, KW.out.2.1, KW.out.2.2, qP.below b4, qB.below b4, qT.below b4, qF.above (Above.below b4), fun x hx => by
                              obtain ⟨j, hj, hxe⟩ := List.getElem_of_mem hx
                              exact (Fils.elem L3.F (j := j) (x := x) (by rw [List.getElem?_eq_getElem hj, hxe])).2⟩)
                            obtain ⟨u1, hu⟩ : ∃ y, (w2.alloc (.cells #[.string e.s0, .string e.s1, .string e.s2, .string e.s3, .string e.s4, .string e.s5, .string e.s6, .slice a7 n7 c7, .slice a8 n8 c8, .slice avP nvP cvP, .slice avB nvB cvB, .slice a11 n11 c11, .slice avT nvT cvT, .slice ja jn jc, .slice a14 n14 c14, .slice avF nvF cvF] 80)) = y := ⟨_, rfl⟩
                            obtain ⟨X1, hX⟩ : ∃ y, w2.heap.size = y := ⟨_, rfl⟩
                            obtain ⟨p1, r1, t1, f1, HX1⟩ : ∃ p r t f, Hid (Held e X1 u1 p r t f) := ⟨_, _, _, _, by rw [← hu, ← hX]; exact HE.out⟩
                            rw [hu] at b3
                            rw [hu, hX]
                            have BB := Hid.mk' (show Below q7.heap.size q7 u1 from b3)
                            clear hu hX HE qP qB qT qF b2 b3 b4 L3 H22 hv7 hv8 hv11 hv14
                            have BW' := Hid.mk' (show Below w.heap.size w u1 from BW.out.trans (BB.out.mono BW.out.size))
                            have lN' : N < u1.heap.size := Nat.lt_of_lt_of_le lN BB.out.size
                            have lA' : A < u1.heap.size := Nat.lt_of_lt_of_le lA BB.out.size
                            have lB' : B < u1.heap.size := Nat.lt_of_lt_of_le lB BB.out.size
                            have cW' := Hid.mk' (show ∀ i, i < 16 → u1.cell? ⟨N, i, none⟩ = e.cells[i]? from fun i hi => by rw [BB.out.cell (p := ⟨N, i, none⟩) lN]; exact cW.out i hi)
                            have cL' := Hid.mk' (show ∀ i, i < 16 → u1.cell? ⟨A, i, none⟩ = eL.cells[i]? from fun i hi => by rw [BB.out.cell (p := ⟨A, i, none⟩) lA]; exact cL.out i hi)
                            have cR' := Hid.mk' (show ∀ i, i < 16 → u1.cell? ⟨B, i, none⟩ = eR.cells[i]? from fun i hi => by rw [BB.out.cell (p := ⟨B, i, none⟩) lB]; exact cR.out i hi)
                            have LW' := Hid.mk' (LW.out.below BB.out)
                            have LLf' := Hid.mk' (LLf.out.below BB.out)
                            have LRt' := Hid.mk' (LRt.out.below BB.out)
                            clear BW lN lA lB cW cL cR LW LLf LRt
                            have BW := BW'
                            have lN := lN'
                            have lA := lA'
                            have lB := lB'
                            have cW := cW'
                            have cL := cL'
                            have cR := cR'
                            have LW := LW'
                            have LLf := LLf'
                            have LRt := LRt'
                            clear BB BW' lN' lA' lB' cW' cL' cR' LW' LLf' LRt'
                            as_aux_lemma =>
                              have H22 := Hid.mk' (toExt22 eL A u1 LLf.out WL.out SL.out cL.out lA)
                              go_wp2_with fail
                              refine H22.out.mono ?_
                              rintro _ w2 ⟨vP, vB, vT, vJ, vF, rfl, qP, qB, qT, qJ, qF, b2⟩
                              obtain ⟨a7, n7, c7, hv7⟩ : ∃ a n c, eL.v7 = .slice a n c := by obtain ⟨b, o, ⟨a, c, hv, _⟩, _⟩ := LLf.out.T; exact ⟨a, _, c, hv⟩
                              obtain ⟨a8, n8, c8, hv8⟩ : ∃ a n c, eL.v8 = .slice a n c := by obtain ⟨b, o, ⟨a, c, hv, _⟩, _⟩ := LLf.out.G; exact ⟨a, _, c, hv⟩
                              obtain ⟨a11, n11, c11, hv11⟩ : ∃ a n c, eL.v11 = .slice a n c := by obtain ⟨b, o, ⟨a, c, hv, _⟩, _⟩ := LLf.out.C; exact ⟨a, _, c, hv⟩
                              obtain ⟨a14, n14, c14, hv14⟩ : ∃ a n c, eL.v14 = .slice a n c := by obtain ⟨b, o, ⟨a, c, hv, _⟩, _⟩ := LLf.out.M; exact ⟨a, _, c, hv⟩
                              obtain ⟨avP, nvP, cvP, rfl⟩ : ∃ a n c, vP = .slice a n c := by obtain ⟨b, o, ⟨a, c, hv, _⟩, _⟩ := qP; exact ⟨a, _, c, hv⟩
                              obtain ⟨avB, nvB, cvB, rfl⟩ : ∃ a n c, vB = .slice a n c := by obtain ⟨b, o, ⟨a, c, hv, _⟩, _⟩ := qB; exact ⟨a, _, c, hv⟩
                              obtain ⟨avT, nvT, cvT, rfl⟩ : ∃ a n c, vT = .slice a n c := by obtain ⟨b, o, ⟨a, c, hv, _⟩, _⟩ := qT; exact ⟨a, _, c, hv⟩
                              obtain ⟨avF, nvF, cvF, rfl⟩ : ∃ a n c, vF = .slice a n c := by obtain ⟨b, o, ⟨a, c, hv, _⟩, _⟩ := qF; exact ⟨a, _, c, hv⟩
                              obtain ⟨ja, jn, jc, rfl⟩ := qJ
                              rw [hv7, hv8, hv11, hv14]
                              go_upto_region 30 with fail
                              have b3 : Below u1.heap.size u1 (w2.alloc (.cells #[.string eL.s0, .string eL.s1, .string eL.s2, .string eL.s3, .string eL.s4, .string eL.s5, .string eL.s6, .slice a7 n7 c7, .slice a8 n8 c8, .slice avP nvP cvP, .slice avB nvB cvB, .slice a11 n11 c11, .slice avT nvT cvT, .slice ja jn jc, .slice a14 n14 c14, .slice avF nvF cvF] 80)) := b2.alloc b2.size _
                              have b4 : Below w2.heap.size w2 (w2.alloc (.cells #[.string eL.s0, .string eL.s1, .string eL.s2, .string eL.s3, .string eL.s4, .string eL.s5, .string eL.s6, .slice a7 n7 c7, .slice a8 n8 c8, .slice avP nvP cvP, .slice avB nvB cvB, .slice a11 n11 c11, .slice avT nvT cvT, .slice ja jn jc, .slice a14 n14 c14, .slice avF nvF cvF] 80)) := (Below.refl _ _).alloc (Nat.le_refl _) _
                              have L3 := LLf.out.below b3
                              have HE := Hid.mk' (show Held eL w2.heap.size (w2.alloc (.cells #[.string eL.s0, .string eL.s1, .string eL.s2, .string eL.s3, .string eL.s4, .string eL.s5, .string eL.s6, .slice a7 n7 c7, .slice a8 n8 c8, .slice avP nvP cvP, .slice avB nvB cvB, .slice a11 n11 c11, .slice avT nvT cvT, .slice ja jn jc, .slice a14 n14 c14, .slice avF nvF cvF] 80)) (.slice avP nvP cvP) (.slice avB nvB cvB) (.slice avT nvT cvT) (.slice avF nvF cvF) from ⟨World.cell?_alloc_new _ _ _ 0, World.cell?_alloc_new _ _ _ 1, World.cell?_alloc_new _ _ _ 2, World.cell?_alloc_new _ _ _ 3, World.cell?_alloc_new _ _ _ 4, World.cell?_alloc_new _ _ _ 5, World.cell?_alloc_new _ _ _ 6, by rw [hv7]; exact World.cell?_alloc_new _ _ _ 7, by rw [hv8]; exact World.cell?_alloc_new _ _ _ 8, World.cell?_alloc_new _ _ _ 9, World.cell?_alloc_new _ _ _ 10, by rw [hv11]; exact World.cell?_alloc_new _ _ _ 11, World.cell?_alloc_new _ _ _ 12, World.cell?_alloc_new _ _ _ 15, L3.T, L3.G, L3.C, KL.out.1, KL.out.2.1, KL.out.2.2, qP.below b4, qB.below b4, qT.below b4, qF.above (Above.below b4), fun x hx => by
                                obtain ⟨j, hj, hxe⟩ := List.getElem_of_mem hx
                                exact (Fils.elem L3.F (j := j) (x := x) (by rw [List.getElem?_eq_getElem hj, hxe])).2⟩)
                              obtain ⟨u2, hu⟩ : ∃ y, (w2.alloc (.cells #[.string eL.s0, .string eL.s1, .string eL.s2, .string eL.s3, .string eL.s4, .string eL.s5, .string eL.s6, .slice a7 n7 c7, .slice a8 n8 c8, .slice avP nvP cvP, .slice avB nvB cvB, .slice a11 n11 c11, .slice avT nvT cvT, .slice ja jn jc, .slice a14 n14 c14, .slice avF nvF cvF] 80)) = y := ⟨_, rfl⟩
                              obtain ⟨X2, hX⟩ : ∃ y, w2.heap.size = y := ⟨_, rfl⟩
                              obtain ⟨p2, r2, t2, f2, HX2⟩ : ∃ p r t f, Hid (Held eL X2 u2 p r t f) := ⟨_, _, _, _, by rw [← hu, ← hX]; exact HE.out⟩
                              rw [hu] at b3
                              rw [hu, hX]
                              have BB := Hid.mk' (show Below u1.heap.size u1 u2 from b3)
                              clear hu hX HE qP qB qT qF b2 b3 b4 L3 H22 hv7 hv8 hv11 hv14
                              have BW' := Hid.mk' (show Below w.heap.size w u2 from BW.out.trans (BB.out.mono BW.out.size))
                              have lN' : N < u2.heap.size := Nat.lt_of_lt_of_le lN BB.out.size
                              have lA' : A < u2.heap.size := Nat.lt_of_lt_of_le lA BB.out.size
                              have lB' : B < u2.heap.size := Nat.lt_of_lt_of_le lB BB.out.size
                              have cW' := Hid.mk' (show ∀ i, i < 16 → u2.cell? ⟨N, i, none⟩ = e.cells[i]? from fun i hi => by rw [BB.out.cell (p := ⟨N, i, none⟩) lN]; exact cW.out i hi)
                              have cL' := Hid.mk' (show ∀ i, i < 16 → u2.cell? ⟨A, i, none⟩ = eL.cells[i]? from fun i hi => by rw [BB.out.cell (p := ⟨A, i, none⟩) lA]; exact cL.out i hi)
                              have cR' := Hid.mk' (show ∀ i, i < 16 → u2.cell? ⟨B, i, none⟩ = eR.cells[i]? from fun i hi => by rw [BB.out.cell (p := ⟨B, i, none⟩) lB]; exact cR.out i hi)
                              have LW' := Hid.mk' (LW.out.below BB.out)
                              have LLf' := Hid.mk' (LLf.out.below BB.out)
                              have LRt' := Hid.mk' (LRt.out.below BB.out)
                              have HX1' := Hid.mk' (HX1.out.below BB.out)
                              clear BW lN lA lB cW cL cR LW LLf LRt HX1
                              have BW := BW'
                              have lN := lN'
                              have lA := lA'
                              have lB := lB'
                              have cW := cW'
                              have cL := cL'
                              have cR := cR'
                              have LW := LW'
                              have LLf := LLf'
                              have LRt := LRt'
                              have HX1 := HX1'
                              clear BB BW' lN' lA' lB' cW' cL' cR' LW' LLf' LRt' HX1'
                              as_aux_lemma =>
                                have H22 := Hid.mk' (toExt22 eR B u2 LRt.out WR.out SR.out cR.out lB)
                                go_wp2_with fail
                                refine H22.out.mono ?_
                                rintro _ w2 ⟨vP, vB, vT, vJ, vF, rfl, qP, qB, qT, qJ, qF, b2⟩
                                obtain ⟨a7, n7, c7, hv7⟩ : ∃ a n c, eR.v7 = .slice a n c := by obtain ⟨b, o, ⟨a, c, hv, _⟩, _⟩ := LRt.out.T; exact ⟨a, _, c, hv⟩
                                obtain ⟨a8, n8, c8, hv8⟩ : ∃ a n c, eR.v8 = .slice a n c := by obtain ⟨b, o, ⟨a, c, hv, _⟩, _⟩ := LRt.out.G; exact ⟨a, _, c, hv⟩
                                obtain ⟨a11, n11, c11, hv11⟩ : ∃ a n c, eR.v11 = .slice a n c := by obtain ⟨b, o, ⟨a, c, hv, _⟩, _⟩ := LRt.out.C; exact ⟨a, _, c, hv⟩
                                obtain ⟨a14, n14, c14, hv14⟩ : ∃ a n c, eR.v14 = .slice a n c := by obtain ⟨b, o, ⟨a, c, hv, _⟩, _⟩ := LRt.out.M; exact ⟨a, _, c, hv⟩
                                obtain ⟨avP, nvP, cvP, rfl⟩ : ∃ a n c, vP = .slice a n c := by obtain ⟨b, o, ⟨a, c, hv, _⟩, _⟩ := qP; exact ⟨a, _, c, hv⟩
                                obtain ⟨avB, nvB, cvB, rfl⟩ : ∃ a n c, vB = .slice a n c := by obtain ⟨b, o, ⟨a, c, hv, _⟩, _⟩ := qB; exact ⟨a, _, c, hv⟩
                                obtain ⟨avT, nvT, cvT, rfl⟩ : ∃ a n c, vT = .slice a n c := by obtain ⟨b, o, ⟨a, c, hv, _⟩, _⟩ := qT; exact ⟨a, _, c, hv⟩
                                obtain ⟨avF, nvF, cvF, rfl⟩ : ∃ a n c, vF = .slice a n c := by obtain ⟨b, o, ⟨a, c, hv, _⟩, _⟩ := qF; exact ⟨a, _, c, hv⟩
                                obtain ⟨ja, jn, jc, rfl⟩ := qJ
                                rw [hv7, hv8, hv11, hv14]
                                go_upto_region 31 with fail
                                have b3 : Below u2.heap.size u2 (w2.alloc (.cells #[.string eR.s0, .string eR.s1, .string eR.s2, .string eR.s3, .string eR.s4, .string eR.s5, .string eR.s6, .slice a7 n7 c7, .slice a8 n8 c8, .slice avP nvP cvP, .slice avB nvB cvB, .slice a11 n11 c11, .slice avT nvT cvT, .slice ja jn jc, .slice a14 n14 c14, .slice avF nvF cvF] 80)) := b2.alloc b2.size _
                                have b4 : Below w2.heap.size w2 (w2.alloc (.cells #[.string eR.s0, .string eR.s1, .string eR.s2, .string eR.s3, .string eR.s4, .string eR.s5, .string eR.s6, .slice a7 n7 c7, .slice a8 n8 c8, .slice avP nvP cvP, .slice avB nvB cvB, .slice a11 n11 c11, .slice avT nvT cvT, .slice ja jn jc, .slice a14 n14 c14, .slice avF nvF cvF] 80)) := (Below.refl _ _).alloc (Nat.le_refl _) _
                                have L3 := LRt.out.below b3
                                have HE := Hid.mk' (show Held eR w2.heap.size (w2.alloc (.cells #[.string eR.s0, .string eR.s1, .string eR.s2, .string eR.s3, .string eR.s4, .string eR.s5, .string eR.s6, .slice a7 n7 c7, .slice a8 n8 c8, .slice avP nvP cvP, .slice avB nvB cvB, .slice a11 n11 c11, .slice avT nvT cvT, .slice ja jn jc, .slice a14 n14 c14, .slice avF nvF cvF] 80)) (.slice avP nvP cvP) (.slice avB nvB cvB) (.slice avT nvT cvT) (.slice avF nvF cvF) from ⟨World.cell?_alloc_new _ _ _ 0, World.cell?_alloc_new _ _ _ 1, World.cell?_alloc_new _ _ _ 2, World.cell?_alloc_new _ _ _ 3, World.cell?_alloc_new _ _ _ 4, World.cell?_alloc_new _ _ _ 5, World.cell?_alloc_new _ _ _ 6, by rw [hv7]; exact World.cell?_alloc_new _ _ _ 7, by rw [hv8]; exact World.cell?_alloc_new _ _ _ 8, World.cell?_alloc_new _ _ _ 9, World.cell?_alloc_new _ _ _ 10, by rw [hv11]; exact World.cell?_alloc_new _ _ _ 11, World.cell?_alloc_new _ _ _ 12, World.cell?_alloc_new _ _ _ 15, L3.T, L3.G, L3.C, KR.out.1, KR.out.2.1, KR.out.2.2, qP.below b4, qB.below b4, qT.below b4, qF.above (Above.below b4), fun x hx => by
                                  obtain ⟨j, hj, hxe⟩ := List.getElem_of_mem hx
                                  exact (Fils.elem L3.F (j := j) (x := x) (by rw [List.getElem?_eq_getElem hj, hxe])).2⟩)
                                obtain ⟨u3, hu⟩ : ∃ y, (w2.alloc (.cells #[.string eR.s0, .string eR.s1, .string eR.s2, .string eR.s3, .string eR.s4, .string eR.s5, .string eR.s6, .slice a7 n7 c7, .slice a8 n8 c8, .slice avP nvP cvP, .slice avB nvB cvB, .slice a11 n11 c11, .slice avT nvT cvT, .slice ja jn jc, .slice a14 n14 c14, .slice avF nvF cvF] 80)) = y := ⟨_, rfl⟩
                                obtain ⟨X3, hX⟩ : ∃ y, w2.heap.size = y := ⟨_, rfl⟩
                                obtain ⟨p3, r3, t3, f3, HX3⟩ : ∃ p r t f, Hid (Held eR X3 u3 p r t f) := ⟨_, _, _, _, by rw [← hu, ← hX]; exact HE.out⟩
                                rw [hu] at b3
                                rw [hu, hX]
                                have BB := Hid.mk' (show Below u2.heap.size u2 u3 from b3)
                                clear hu hX HE qP qB qT qF b2 b3 b4 L3 H22 hv7 hv8 hv11 hv14
                                have BW' := Hid.mk' (show Below w.heap.size w u3 from BW.out.trans (BB.out.mono BW.out.size))
                                have lN' : N < u3.heap.size := Nat.lt_of_lt_of_le lN BB.out.size
                                have lA' : A < u3.heap.size := Nat.lt_of_lt_of_le lA BB.out.size
                                have lB' : B < u3.heap.size := Nat.lt_of_lt_of_le lB BB.out.size
                                have cW' := Hid.mk' (show ∀ i, i < 16 → u3.cell? ⟨N, i, none⟩ = e.cells[i]? from fun i hi => by rw [BB.out.cell (p := ⟨N, i, none⟩) lN]; exact cW.out i hi)
                                have cL' := Hid.mk' (show ∀ i, i < 16 → u3.cell? ⟨A, i, none⟩ = eL.cells[i]? from fun i hi => by rw [BB.out.cell (p := ⟨A, i, none⟩) lA]; exact cL.out i hi)
                                have cR' := Hid.mk' (show ∀ i, i < 16 → u3.cell? ⟨B, i, none⟩ = eR.cells[i]? from fun i hi => by rw [BB.out.cell (p := ⟨B, i, none⟩) lB]; exact cR.out i hi)
                                have LW' := Hid.mk' (LW.out.below BB.out)
                                have LLf' := Hid.mk' (LLf.out.below BB.out)
                                have LRt' := Hid.mk' (LRt.out.below BB.out)
                                have HX1' := Hid.mk' (HX1.out.below BB.out)
                                have HX2' := Hid.mk' (HX2.out.below BB.out)
                                clear BW lN lA lB cW cL cR LW LLf LRt HX1 HX2
                                have BW := BW'
                                have lN := lN'
                                have lA := lA'
                                have lB := lB'
                                have cW := cW'
                                have cL := cL'
                                have cR := cR'
                                have LW := LW'
                                have LLf := LLf'
                                have LRt := LRt'
                                have HX1 := HX1'
                                have HX2 := HX2'
                                clear BB BW' lN' lA' lB' cW' cL' cR' LW' LLf' LRt' HX1' HX2'
                                as_aux_lemma =>
                                  clear cL cR LLf LRt lA lB WL WR KL KR KW HW
                                  have HM := Hid.mk' (made23 (manifest32 e _ _ _ _ _ _ HX1.out HS.out))
                                  go_wp2_with fail
                                  refine HM.out.mono ?_
                                  rintro _ m1 ⟨H1, dp1, pp1, bp1, vI1, vA1, rfl, m4, q4⟩
                                  have BB := Hid.mk' m4.below
                                  have MN1 := Hid.mk' (Man.of m4 q4)
                                  have BW' := Hid.mk' (show Below w.heap.size w m1 from BW.out.trans (BB.out.mono BW.out.size))
                                  have lN' : N < m1.heap.size := Nat.lt_of_lt_of_le lN BB.out.size
                                  have cW' := Hid.mk' (show ∀ i, i < 16 → m1.cell? ⟨N, i, none⟩ = e.cells[i]? from fun i hi => by rw [BB.out.cell (p := ⟨N, i, none⟩) lN]; exact cW.out i hi)
                                  have LW' := Hid.mk' (LW.out.below BB.out)
                                  have HX2' := Hid.mk' (HX2.out.below BB.out)
                                  have HX3' := Hid.mk' (HX3.out.below BB.out)
                                  clear HM m4 q4 BW lN cW LW HX2 HX3
                                  have BW := BW'
                                  have lN := lN'
                                  have cW := cW'
                                  have LW := LW'
                                  have HX2 := HX2'
                                  have HX3 := HX3'
                                  clear BB BW' lN' cW' LW' HX2' HX3' HX1
                                  go_upto_region 32 with fail
                                  as_aux_lemma =>
                                    have HM := Hid.mk' (made23 (manifest32 eL _ _ _ _ _ _ HX2.out SL.out))
                                    go_wp2_with fail
                                    refine HM.out.mono ?_
                                    rintro _ m2 ⟨H2, dp2, pp2, bp2, vI2, vA2, rfl, m4, q4⟩
                                    have BB := Hid.mk' m4.below
                                    have MN2 := Hid.mk' (Man.of m4 q4)
                                    have BW' := Hid.mk' (show Below w.heap.size w m2 from BW.out.trans (BB.out.mono BW.out.size))
                                    have lN' : N < m2.heap.size := Nat.lt_of_lt_of_le lN BB.out.size
                                    have cW' := Hid.mk' (show ∀ i, i < 16 → m2.cell? ⟨N, i, none⟩ = e.cells[i]? from fun i hi => by rw [BB.out.cell (p := ⟨N, i, none⟩) lN]; exact cW.out i hi)
                                    have LW' := Hid.mk' (LW.out.below BB.out)
                                    have HX3' := Hid.mk' (HX3.out.below BB.out)
                                    have MN1' := Hid.mk' (MN1.out.below BB.out)
                                    clear HM m4 q4 BW lN cW LW HX3 MN1
                                    have BW := BW'
                                    have lN := lN'
                                    have cW := cW'
                                    have LW := LW'
                                    have HX3 := HX3'
                                    have MN1 := MN1'
                                    clear BB BW' lN' cW' LW' HX3' MN1' HX2
                                    go_upto_region 33 with fail
                                    as_aux_lemma =>
                                      have HM := Hid.mk' (made23 (manifest32 eR _ _ _ _ _ _ HX3.out SR.out))
                                      go_wp2_with fail
                                      refine HM.out.mono ?_
                                      rintro _ m3 ⟨H3, dp3, pp3, bp3, vI3, vA3, rfl, m4, q4⟩
                                      have BB := Hid.mk' m4.below
                                      have MN3 := Hid.mk' (Man.of m4 q4)
                                      have BW' := Hid.mk' (show Below w.heap.size w m3 from BW.out.trans (BB.out.mono BW.out.size))
                                      have lN' : N < m3.heap.size := Nat.lt_of_lt_of_le lN BB.out.size
                                      have cW' := Hid.mk' (show ∀ i, i < 16 → m3.cell? ⟨N, i, none⟩ = e.cells[i]? from fun i hi => by rw [BB.out.cell (p := ⟨N, i, none⟩) lN]; exact cW.out i hi)
                                      have LW' := Hid.mk' (LW.out.below BB.out)
                                      have MN1' := Hid.mk' (MN1.out.below BB.out)
                                      have MN2' := Hid.mk' (MN2.out.below BB.out)
                                      clear HM m4 q4 BW lN cW LW MN1 MN2
                                      have BW := BW'
                                      have lN := lN'
                                      have cW := cW'
                                      have LW := LW'
                                      have MN1 := MN1'
                                      have MN2 := MN2'
                                      clear BB BW' lN' cW' LW' MN1' MN2' HX3
                                      go_upto_region 34 with fail
                                      as_aux_lemma =>
                                        obtain ⟨dq1, rfl⟩ := MN1.out.D.ptr
                                        obtain ⟨pq1, rfl⟩ := MN1.out.P.ptr
                                        obtain ⟨bq1, rfl⟩ := MN1.out.B.ptr
                                        obtain ⟨dq2, rfl⟩ := MN2.out.D.ptr
                                        obtain ⟨pq2, rfl⟩ := MN2.out.P.ptr
                                        obtain ⟨bq2, rfl⟩ := MN2.out.B.ptr
                                        obtain ⟨dq3, rfl⟩ := MN3.out.D.ptr
                                        obtain ⟨pq3, rfl⟩ := MN3.out.P.ptr
                                        obtain ⟨bq3, rfl⟩ := MN3.out.B.ptr
                                        obtain ⟨gT1, hgT1⟩ : ∃ g, glue e.T 44 = g := ⟨_, rfl⟩
                                        have HGT1 := Hid.mk' hgT1
                                        clear hgT1
                                        obtain ⟨gT2, hgT2⟩ : ∃ g, glue (e.T.take k7) 44 = g := ⟨_, rfl⟩
                                        have HGT2 := Hid.mk' hgT2
                                        clear hgT2
                                        obtain ⟨gT3, hgT3⟩ : ∃ g, glue (e.T.drop k7) 44 = g := ⟨_, rfl⟩
                                        have HGT3 := Hid.mk' hgT3
                                        clear hgT3
                                        obtain ⟨gG1, hgG1⟩ : ∃ g, glue e.G 32 = g := ⟨_, rfl⟩
                                        have HGG1 := Hid.mk' hgG1
                                        clear hgG1
                                        obtain ⟨gG2, hgG2⟩ : ∃ g, glue (e.G.take k8) 32 = g := ⟨_, rfl⟩
                                        have HGG2 := Hid.mk' hgG2
                                        clear hgG2
                                        obtain ⟨gG3, hgG3⟩ : ∃ g, glue (e.G.drop k8) 32 = g := ⟨_, rfl⟩
                                        have HGG3 := Hid.mk' hgG3
                                        clear hgG3
                                        obtain ⟨gC1, hgC1⟩ : ∃ g, glue e.C 44 = g := ⟨_, rfl⟩
                                        have HGC1 := Hid.mk' hgC1
                                        clear hgC1
                                        obtain ⟨gC2, hgC2⟩ : ∃ g, glue (e.C.take k11) 44 = g := ⟨_, rfl⟩
                                        have HGC2 := Hid.mk' hgC2
                                        clear hgC2
                                        obtain ⟨gC3, hgC3⟩ : ∃ g, glue (e.C.drop k11) 44 = g := ⟨_, rfl⟩
                                        have HGC3 := Hid.mk' hgC3
                                        clear hgC3
                                        obtain ⟨LT1, HLT1⟩ : ∃ L, (assetsAll e.F).length = L := ⟨_, rfl⟩
                                        have NLT1 := Hid.mk' HLT1
                                        clear HLT1
                                        obtain ⟨LT2, HLT2⟩ : ∃ L, (assetsAll (e.F.take k15)).length = L := ⟨_, rfl⟩
                                        have NLT2 := Hid.mk' HLT2
                                        clear HLT2
                                        obtain ⟨LT3, HLT3⟩ : ∃ L, (assetsAll (e.F.drop k15)).length = L := ⟨_, rfl⟩
                                        have NLT3 := Hid.mk' HLT3
                                        clear HLT3
                                        have hLT : LT1 = LT2 + LT3 := by
                                          rw [← NLT1.out, ← NLT2.out, ← NLT3.out, ← List.length_append]
                                          have : assetsAll (e.F.take k15) ++ assetsAll (e.F.drop k15) = assetsAll e.F := by simp only [assetsAll, ← List.flatMap_append, List.take_append_drop]
                                          rw [this]
                                        have HLT := Hid.mk' hLT
                                        clear hLT
                                        have hLT1 : LT1 ≤ 1099511627776 := by
                                          rw [← NLT1.out]
                                          have h1 := assetsAll_le (F := e.F) HS.out.F.2
                                          rw [NL15.out] at h1
                                          omega
                                        obtain ⟨bvI1, ovI1, avI1, cvI1, evI1, ZvI1⟩ : ∃ (b o : Nat) (a : Option Addr) (c : Nat), vI1 = .slice a L12 c ∧ Hid ((0 < L12 → a = some ⟨b, o, none⟩) ∧ ∀ (j : Nat) x, e.Tg[j]? = some x → ElemPairs m3 b o j x) := by
                                          have hh := MN1.out.I
                                          obtain ⟨b, o, ⟨a, c, h1, h2, _⟩, _, h3⟩ := hh
                                          have hle : e.Tg.length = L12 := NL12.out
                                          have h1' : _ = Value.slice a _ c := h1
                                          rw [hle] at h1 h2
                                          exact ⟨b, o, a, c, h1, fun h => (h2 h).1, h3⟩
                                        have h1_17 : m3.cell? ⟨H1, 17, none⟩ = some (.slice avI1 L12 cvI1) := by rw [← evI1]; exact MN1.out.cell 17
                                        clear evI1
                                        obtain ⟨bvA1, ovA1, avA1, cvA1, evA1, ZvA1⟩ : ∃ (b o : Nat) (a : Option Addr) (c : Nat), vA1 = .slice a LT1 c ∧ Hid ((0 < LT1 → a = some ⟨b, o, none⟩) ∧ ∀ (j : Nat) x, (assetsAll e.F)[j]? = some x → m3.cell? ⟨b, o + j * 3, none⟩ = some (.string x.1) ∧ m3.cell? ⟨b, o + j * 3 + 1, none⟩ = some (.string x.2.1) ∧ m3.cell? ⟨b, o + j * 3 + 2, none⟩ = some (.bool x.2.2)) := by
                                          have hh := MN1.out.A
                                          obtain ⟨b, o, ⟨a, c, h1, h2, _⟩, _, h3⟩ := hh
                                          have hle : (assetsAll e.F).length = LT1 := NLT1.out
                                          have h1' : _ = Value.slice a _ c := h1
                                          rw [hle] at h1 h2
                                          exact ⟨b, o, a, c, h1, fun h => (h2 h).1, h3⟩
                                        have h1_18 : m3.cell? ⟨H1, 18, none⟩ = some (.slice avA1 LT1 cvA1) := by rw [← evA1]; exact MN1.out.cell 18
                                        clear evA1
                                        obtain ⟨bvI2, ovI2, avI2, cvI2, evI2, ZvI2⟩ : ∃ (b o : Nat) (a : Option Addr) (c : Nat), vI2 = .slice a k12 c ∧ Hid ((0 < k12 → a = some ⟨b, o, none⟩) ∧ ∀ (j : Nat) x, (e.Tg.take k12)[j]? = some x → ElemPairs m3 b o j x) := by
                                          have hh := MN2.out.I
                                          rw [HEL.out, HKE.out] at hh
                                          obtain ⟨b, o, ⟨a, c, h1, h2, _⟩, _, h3⟩ := hh
                                          have hle : (e.Tg.take k12).length = k12 := by rw [List.length_take, NL12.out]; omega
                                          have h1' : _ = Value.slice a _ c := h1
                                          change vI2 = .slice a (e.Tg.take k12).length c at h1
                                          change 0 < (e.Tg.take k12).length → _ at h2
                                          rw [hle] at h1 h2
                                          exact ⟨b, o, a, c, h1, fun h => (h2 h).1, h3⟩
                                        have h2_17 : m3.cell? ⟨H2, 17, none⟩ = some (.slice avI2 k12 cvI2) := by rw [← evI2]; exact MN2.out.cell 17
                                        clear evI2
                                        obtain ⟨bvA2, ovA2, avA2, cvA2, evA2, ZvA2⟩ : ∃ (b o : Nat) (a : Option Addr) (c : Nat), vA2 = .slice a LT2 c ∧ Hid ((0 < LT2 → a = some ⟨b, o, none⟩) ∧ ∀ (j : Nat) x, (assetsAll (e.F.take k15))[j]? = some x → m3.cell? ⟨b, o + j * 3, none⟩ = some (.string x.1) ∧ m3.cell? ⟨b, o + j * 3 + 1, none⟩ = some (.string x.2.1) ∧ m3.cell? ⟨b, o + j * 3 + 2, none⟩ = some (.bool x.2.2)) := by
                                          have hh := MN2.out.A
                                          rw [HEL.out, HKE.out] at hh
                                          obtain ⟨b, o, ⟨a, c, h1, h2, _⟩, _, h3⟩ := hh
                                          have hle : (assetsAll (e.F.take k15)).length = LT2 := NLT2.out
                                          have h1' : _ = Value.slice a _ c := h1
                                          change vA2 = .slice a (assetsAll (e.F.take k15)).length c at h1
                                          change 0 < (assetsAll (e.F.take k15)).length → _ at h2
                                          rw [hle] at h1 h2
                                          exact ⟨b, o, a, c, h1, fun h => (h2 h).1, h3⟩
                                        have h2_18 : m3.cell? ⟨H2, 18, none⟩ = some (.slice avA2 LT2 cvA2) := by rw [← evA2]; exact MN2.out.cell 18
                                        clear evA2
                                        obtain ⟨bvI3, ovI3, avI3, cvI3, evI3, ZvI3⟩ : ∃ (b o : Nat) (a : Option Addr) (c : Nat), vI3 = .slice a (L12 - k12) c ∧ Hid ((0 < (L12 - k12) → a = some ⟨b, o, none⟩) ∧ ∀ (j : Nat) x, (e.Tg.drop k12)[j]? = some x → ElemPairs m3 b o j x) := by
                                          have hh := MN3.out.I
                                          rw [HER.out, HKE.out] at hh
                                          obtain ⟨b, o, ⟨a, c, h1, h2, _⟩, _, h3⟩ := hh
                                          have hle : (e.Tg.drop k12).length = (L12 - k12) := by rw [List.length_drop, NL12.out]
                                          have h1' : _ = Value.slice a _ c := h1
                                          change vI3 = .slice a (e.Tg.drop k12).length c at h1
                                          change 0 < (e.Tg.drop k12).length → _ at h2
                                          rw [hle] at h1 h2
                                          exact ⟨b, o, a, c, h1, fun h => (h2 h).1, h3⟩
                                        have h3_17 : m3.cell? ⟨H3, 17, none⟩ = some (.slice avI3 (L12 - k12) cvI3) := by rw [← evI3]; exact MN3.out.cell 17
                                        clear evI3
                                        obtain ⟨bvA3, ovA3, avA3, cvA3, evA3, ZvA3⟩ : ∃ (b o : Nat) (a : Option Addr) (c : Nat), vA3 = .slice a LT3 c ∧ Hid ((0 < LT3 → a = some ⟨b, o, none⟩) ∧ ∀ (j : Nat) x, (assetsAll (e.F.drop k15))[j]? = some x → m3.cell? ⟨b, o + j * 3, none⟩ = some (.string x.1) ∧ m3.cell? ⟨b, o + j * 3 + 1, none⟩ = some (.string x.2.1) ∧ m3.cell? ⟨b, o + j * 3 + 2, none⟩ = some (.bool x.2.2)) := by
                                          have hh := MN3.out.A
                                          rw [HER.out, HKE.out] at hh
                                          obtain ⟨b, o, ⟨a, c, h1, h2, _⟩, _, h3⟩ := hh
                                          have hle : (assetsAll (e.F.drop k15)).length = LT3 := NLT3.out
                                          have h1' : _ = Value.slice a _ c := h1
                                          change vA3 = .slice a (assetsAll (e.F.drop k15)).length c at h1
                                          change 0 < (assetsAll (e.F.drop k15)).length → _ at h2
                                          rw [hle] at h1 h2
                                          exact ⟨b, o, a, c, h1, fun h => (h2 h).1, h3⟩
                                        have h3_18 : m3.cell? ⟨H3, 18, none⟩ = some (.slice avA3 LT3 cvA3) := by rw [← evA3]; exact MN3.out.cell 18
                                        clear evA3
                                        skip
                                        have y1 : m3.cell? ⟨N, 1, none⟩ = some (.string e.s1) := cW.out 1 (by omega)
                                        have y3 : m3.cell? ⟨N, 3, none⟩ = some (.string e.s3) := cW.out 3 (by omega)
                                        have y4 : m3.cell? ⟨N, 4, none⟩ = some (.string e.s4) := cW.out 4 (by omega)
                                        have y7 : m3.cell? ⟨N, 7, none⟩ = some (.slice s.a7 L7 s.c7) := by rw [← V7.out]; exact cW.out 7 (by omega)
                                        have y8 : m3.cell? ⟨N, 8, none⟩ = some (.slice s.a8 L8 s.c8) := by rw [← V8.out]; exact cW.out 8 (by omega)
                                        have y9 : m3.cell? ⟨N, 9, none⟩ = some (.slice s.a9 L9 s.c9) := by rw [← V9.out]; exact cW.out 9 (by omega)
                                        have y10 : m3.cell? ⟨N, 10, none⟩ = some (.slice s.a10 L10 s.c10) := by rw [← V10.out]; exact cW.out 10 (by omega)
                                        have y11 : m3.cell? ⟨N, 11, none⟩ = some (.slice s.a11 L11 s.c11) := by rw [← V11.out]; exact cW.out 11 (by omega)
                                        have y12 : m3.cell? ⟨N, 12, none⟩ = some (.slice s.a12 L12 s.c12) := by rw [← V12.out]; exact cW.out 12 (by omega)
                                        have y15 : m3.cell? ⟨N, 15, none⟩ = some (.slice s.a15 L15 s.c15) := by rw [← V15.out]; exact cW.out 15 (by omega)
                                        have h1_4 : m3.cell? ⟨H1, 4, none⟩ = some (.string ⟨#[101, 110, 45, 85, 83]⟩) := MN1.out.cell 4
                                        have h1_5 : m3.cell? ⟨H1, 5, none⟩ = some (.string e.s1) := MN1.out.cell 5
                                        have h1_6 : m3.cell? ⟨H1, 6, none⟩ = some (.string e.s2) := MN1.out.cell 6
                                        have h1_7 : m3.cell? ⟨H1, 7, none⟩ = some (.string e.s0) := MN1.out.cell 7
                                        have h2_4 : m3.cell? ⟨H2, 4, none⟩ = some (.string ⟨#[101, 110, 45, 85, 83]⟩) := MN2.out.cell 4
                                        have h2_5 : m3.cell? ⟨H2, 5, none⟩ = some (.string e.s1) := by have hh := MN2.out.cell 5; rw [HEL.out] at hh; exact hh
                                        have h2_6 : m3.cell? ⟨H2, 6, none⟩ = some (.string e.s2) := by have hh := MN2.out.cell 6; rw [HEL.out] at hh; exact hh
                                        have h2_7 : m3.cell? ⟨H2, 7, none⟩ = some (.string e.s0) := by have hh := MN2.out.cell 7; rw [HEL.out] at hh; exact hh
                                        have h3_4 : m3.cell? ⟨H3, 4, none⟩ = some (.string ⟨#[101, 110, 45, 85, 83]⟩) := MN3.out.cell 4
                                        have h3_5 : m3.cell? ⟨H3, 5, none⟩ = some (.string e.s1) := by have hh := MN3.out.cell 5; rw [HER.out] at hh; exact hh
                                        have h3_6 : m3.cell? ⟨H3, 6, none⟩ = some (.string e.s2) := by have hh := MN3.out.cell 6; rw [HER.out] at hh; exact hh
                                        have h3_7 : m3.cell? ⟨H3, 7, none⟩ = some (.string e.s0) := by have hh := MN3.out.cell 7; rw [HER.out] at hh; exact hh
                                        have h1_8 : m3.cell? ⟨H1, 8, none⟩ = some (.string e.s3) := MN1.out.cell 8
                                        have A27 := Hid.mk' (show ∀ n, Calls Try.prog 27 #[.slice s.a15 L15 s.c15] (m3.drewN n) fun e' w'' => e' = .returned (.int .i64 (LT1 : Int)) ∧ ∃ m, w'' = m3.drewN m from fun n => by
                                          have hF := LW.out.F.below (below_drewN (Below.refl _ m3) n)
                                          rw [V15.out] at hF
                                          refine (assets27 _ e.F (m3.drewN n) hF (by rw [NL15.out]; exact hL15) HS.out.F.2).mono ?_
                                          rintro e' w' ⟨h1, h2⟩
                                          exact ⟨by rw [h1, NLT1.out], n, h2⟩)
                                        go_wp2
                                        go_quiet ((go_at_call 27; exact A27.out _))
                                        clear A27
                                        go_upto_region 38 with fail
                                        as_aux_lemma =>
                                          go_wp2
                                          go_quiet (fail)
                                          go_upto_region 40 with fail
                                          as_aux_lemma =>
                                            obtain ⟨s4, h4⟩ : ∃ s, e.s4 = s := ⟨_, rfl⟩
                                            rw [h4] at y4
                                            have H4 := Hid.mk' h4
                                            clear h4
                                            have h1_9 : m3.cell? ⟨H1, 9, none⟩ = some (.pointer dq1) := MN1.out.cell 9
                                            rw [World.drewN_drewN]
                                            have D1 := Hid.mk' (show Desc (H1 + 1) m3 (.pointer dq1) s4 by rw [← H4.out]; exact MN1.out.D)
                                            go_upto_region 40 with fail
                                            go_cut [244] from 235 to 244 (fun r wd => r = .bool false ∧ ∃ n, wd = m3.drewN n)
                                            case first =>
                                              as_aux_lemma =>
                                                cases hs : s4.toList.isEmpty with
                                                | true =>
                                                  obtain rfl : dq1 = none := by have := D1.out.1 hs; injection this
                                                  go_quiet (fail)
                                                  (try go_wp2)
                                                  go_meet
                                                  case rel => exact ⟨rfl, _, World.drewN_drewN ..⟩
                                                | false =>
                                                  obtain ⟨b, hb, _, hbl, hc0, hc1⟩ := D1.out.2 hs
                                                  obtain rfl : dq1 = some ⟨b, 0, none⟩ := by injection hb
                                                  clear hb
                                                  go_quiet (fail)
                                                  (try go_wp2)
                                                  go_meet
                                                  case rel => exact ⟨rfl, _, World.drewN_drewN ..⟩
                                            case rest =>
                                            as_aux_lemma =>
                                              obtain ⟨rfl, nn, rfl⟩ := hcut
                                              go_upto_region 42 with fail
                                              go_cut [263] from 245 to 263 (fun r wd => r = .bool false ∧ ∃ n, wd = m3.drewN n)
                                              case first =>
                                                as_aux_lemma =>
                                                  cases hs : s4.toList.isEmpty with
                                                  | true =>
                                                    obtain rfl : dq1 = none := by have := D1.out.1 hs; injection this
                                                    go_quiet (fail)
                                                    (try go_wp2)
                                                    go_meet
                                                    case rel => exact ⟨rfl, _, World.drewN_drewN ..⟩
                                                  | false =>
                                                    obtain ⟨b, hb, _, hbl, hc0, hc1⟩ := D1.out.2 hs
                                                    obtain rfl : dq1 = some ⟨b, 0, none⟩ := by injection hb
                                                    clear hb
                                                    go_quiet (fail)
                                                    (try go_wp2)
                                                    go_meet
                                                    case rel => exact ⟨rfl, _, World.drewN_drewN ..⟩
                                              case rest =>
                                              as_aux_lemma =>
                                                obtain ⟨rfl, nn, rfl⟩ := hcut
                                                clear h1_9 y4
                                                have h1_10 : m3.cell? ⟨H1, 10, none⟩ = some (.string gT1) := by rw [← HGT1.out]; exact MN1.out.cell 10
                                                have h2_10 : m3.cell? ⟨H2, 10, none⟩ = some (.string gT2) := by have hh := MN2.out.cell 10; rw [← HGT2.out]; rw [HEL.out, HKE.out] at hh; exact hh
                                                have h3_10 : m3.cell? ⟨H3, 10, none⟩ = some (.string gT3) := by have hh := MN3.out.cell 10; rw [← HGT3.out]; rw [HER.out, HKE.out] at hh; exact hh
                                                have J28 := Hid.mk' (show ∀ W : World, Calls Try.prog 28 #[.string gT2, .string gT3, .int .i64 (k7 : Int), .int .i64 ((L7 : Int) - (k7 : Int)), .string ⟨#[44]⟩] W fun e' w'' => e' = .returned (.string gT1) ∧ w'' = W from fun W => by
                                                  rw [show (L7 : Int) - (k7 : Int) = ((L7 - k7 : Nat) : Int) by omega]
                                                  have z2 : gT2.size ≤ 140737488355328 := by rw [← HGT2.out]; exact glue_size _ _ (le_take _ _ _ HS.out.T.1) (fun Y hY => HS.out.T.2 Y (List.mem_of_mem_take hY))
                                                  have z3 : gT3.size ≤ 140737488355328 := by rw [← HGT3.out]; exact glue_size _ _ (le_drop _ _ _ HS.out.T.1) (fun Y hY => HS.out.T.2 Y (List.mem_of_mem_drop hY))
                                                  refine (joinOf28 gT2 gT3 k7 (L7 - k7) ⟨#[44]⟩ W (by have z1 : (⟨#[44]⟩ : ByteArray).size = 1 := rfl; unfold maxLen; omega)).mono ?_
                                                  rintro _ _ ⟨rfl, rfl⟩
                                                  exact ⟨by rw [joins e.T 44 k7 L7 NL7.out hk7 HGT1.out HGT2.out HGT3.out], rfl⟩)
                                                go_upto_region 44 with fail
                                                go_quiet ((go_at_call 28; with_reducible refine (J28.out _).mono ?_; rintro _ _ ⟨rfl, rfl⟩; exact ⟨rfl, _, rfl⟩))
                                                go_upto_region 46 with fail
                                                clear J28 h1_10 h2_10 h3_10 y7
                                                as_aux_lemma =>
                                                  have h1_11 : m3.cell? ⟨H1, 11, none⟩ = some (.string gG1) := by rw [← HGG1.out]; exact MN1.out.cell 11
                                                  have h2_11 : m3.cell? ⟨H2, 11, none⟩ = some (.string gG2) := by have hh := MN2.out.cell 11; rw [← HGG2.out]; rw [HEL.out, HKE.out] at hh; exact hh
                                                  have h3_11 : m3.cell? ⟨H3, 11, none⟩ = some (.string gG3) := by have hh := MN3.out.cell 11; rw [← HGG3.out]; rw [HER.out, HKE.out] at hh; exact hh
                                                  have J28 := Hid.mk' (show ∀ W : World, Calls Try.prog 28 #[.string gG2, .string gG3, .int .i64 (k8 : Int), .int .i64 ((L8 : Int) - (k8 : Int)), .string ⟨#[32]⟩] W fun e' w'' => e' = .returned (.string gG1) ∧ w'' = W from fun W => by
                                                    rw [show (L8 : Int) - (k8 : Int) = ((L8 - k8 : Nat) : Int) by omega]
                                                    have z2 : gG2.size ≤ 140737488355328 := by rw [← HGG2.out]; exact glue_size _ _ (le_take _ _ _ HS.out.G.1) (fun Y hY => HS.out.G.2 Y (List.mem_of_mem_take hY))
                                                    have z3 : gG3.size ≤ 140737488355328 := by rw [← HGG3.out]; exact glue_size _ _ (le_drop _ _ _ HS.out.G.1) (fun Y hY => HS.out.G.2 Y (List.mem_of_mem_drop hY))
                                                    refine (joinOf28 gG2 gG3 k8 (L8 - k8) ⟨#[32]⟩ W (by have z1 : (⟨#[32]⟩ : ByteArray).size = 1 := rfl; unfold maxLen; omega)).mono ?_
                                                    rintro _ _ ⟨rfl, rfl⟩
                                                    exact ⟨by rw [joins e.G 32 k8 L8 NL8.out hk8 HGG1.out HGG2.out HGG3.out], rfl⟩)
                                                  go_upto_region 46 with fail
                                                  go_quiet ((go_at_call 28; with_reducible refine (J28.out _).mono ?_; rintro _ _ ⟨rfl, rfl⟩; exact ⟨rfl, _, rfl⟩))
                                                  go_upto_region 48 with fail
                                                  clear J28 h1_11 h2_11 h3_11 y8
                                                  as_aux_lemma =>
                                                    have h1_13 : m3.cell? ⟨H1, 13, none⟩ = some (.string gC1) := by rw [← HGC1.out]; exact MN1.out.cell 13
                                                    have h2_13 : m3.cell? ⟨H2, 13, none⟩ = some (.string gC2) := by have hh := MN2.out.cell 13; rw [← HGC2.out]; rw [HEL.out, HKE.out] at hh; exact hh
                                                    have h3_13 : m3.cell? ⟨H3, 13, none⟩ = some (.string gC3) := by have hh := MN3.out.cell 13; rw [← HGC3.out]; rw [HER.out, HKE.out] at hh; exact hh
                                                    have J28 := Hid.mk' (show ∀ W : World, Calls Try.prog 28 #[.string gC2, .string gC3, .int .i64 (k11 : Int), .int .i64 ((L11 : Int) - (k11 : Int)), .string ⟨#[44]⟩] W fun e' w'' => e' = .returned (.string gC1) ∧ w'' = W from fun W => by
                                                      rw [show (L11 : Int) - (k11 : Int) = ((L11 - k11 : Nat) : Int) by omega]
                                                      have z2 : gC2.size ≤ 140737488355328 := by rw [← HGC2.out]; exact glue_size _ _ (le_take _ _ _ HS.out.C.1) (fun Y hY => HS.out.C.2 Y (List.mem_of_mem_take hY))
                                                      have z3 : gC3.size ≤ 140737488355328 := by rw [← HGC3.out]; exact glue_size _ _ (le_drop _ _ _ HS.out.C.1) (fun Y hY => HS.out.C.2 Y (List.mem_of_mem_drop hY))
                                                      refine (joinOf28 gC2 gC3 k11 (L11 - k11) ⟨#[44]⟩ W (by have z1 : (⟨#[44]⟩ : ByteArray).size = 1 := rfl; unfold maxLen; omega)).mono ?_
                                                      rintro _ _ ⟨rfl, rfl⟩
                                                      exact ⟨by rw [joins e.C 44 k11 L11 NL11.out hk11 HGC1.out HGC2.out HGC3.out], rfl⟩)
                                                    go_upto_region 48 with fail
                                                    go_quiet ((go_at_call 28; with_reducible refine (J28.out _).mono ?_; rintro _ _ ⟨rfl, rfl⟩; exact ⟨rfl, _, rfl⟩))
                                                    go_upto_region 50 with fail
                                                    clear J28 h1_13 h2_13 h3_13 y11
                                                    as_aux_lemma =>
                                                      clear y1 y3 h1_4 h1_5 h1_6 h1_7 h2_4 h2_5 h2_6 h2_7 h3_4 h3_5 h3_6 h3_7 h1_8
                                                      skip
                                                      -- ████ P
                                                      have h1_15 : m3.cell? ⟨H1, 15, none⟩ = some (.pointer pq1) := MN1.out.cell 15
                                                      have h2_15 : m3.cell? ⟨H2, 15, none⟩ = some (.pointer pq2) := MN2.out.cell 15
                                                      have h3_15 : m3.cell? ⟨H3, 15, none⟩ = some (.pointer pq3) := MN3.out.cell 15
                                                      obtain ⟨R9, hR9⟩ : ∃ R, L9 = k9 + R := ⟨L9 - k9, by omega⟩
                                                      have r9a : (L9 : Int) - (k9 : Int) = (R9 : Int) := by omega
                                                      have r9b : (k9 : Int) + (R9 : Int) = (L9 : Int) := by omega
                                                      have r9c : L9 ≤ k9 + R9 := by omega
                                                      have r9d : k9 + R9 ≤ L9 := by omega
                                                      have HR9 := Hid.mk' hR9
                                                      clear hR9
                                                      have hp1 := Hid.mk' (show (L9 = 0 ∧ pq1 = none) ∨ (¬ (L9 : Int) = 0 ∧ ∃ b bb oo c, pq1 = some ⟨b, 0, none⟩ ∧ m3.cell? ⟨b, 0, none⟩ = some (.slice (some ⟨bb, oo, none⟩) L9 c) ∧ Hid (∀ (j : Nat) x, e.P[j]? = some x → ElemPairs m3 bb oo j x)) from by have hh := MN1.out.P; exact Props.parts (Ps := e.P) hh (NL9.out))
                                                      have hp2 := Hid.mk' (show (k9 = 0 ∧ pq2 = none) ∨ (¬ (k9 : Int) = 0 ∧ ∃ b bb oo c, pq2 = some ⟨b, 0, none⟩ ∧ m3.cell? ⟨b, 0, none⟩ = some (.slice (some ⟨bb, oo, none⟩) k9 c) ∧ Hid (∀ (j : Nat) x, (e.P.take k9)[j]? = some x → ElemPairs m3 bb oo j x)) from by have hh := MN2.out.P; rw [HEL.out, HKE.out] at hh; exact Props.parts (Ps := (e.P.take k9)) hh (by rw [List.length_take, NL9.out]; omega))
                                                      have hp3 := Hid.mk' (show (R9 = 0 ∧ pq3 = none) ∨ (¬ (R9 : Int) = 0 ∧ ∃ b bb oo c, pq3 = some ⟨b, 0, none⟩ ∧ m3.cell? ⟨b, 0, none⟩ = some (.slice (some ⟨bb, oo, none⟩) R9 c) ∧ Hid (∀ (j : Nat) x, (e.P.drop k9)[j]? = some x → ElemPairs m3 bb oo j x)) from by have hh := MN3.out.P; rw [HER.out, HKE.out] at hh; exact Props.parts (Ps := (e.P.drop k9)) hh (by rw [List.length_drop, NL9.out]; omega))
                                                      go_upto_region 55 with fail
                                                      clear h1_15 h2_15 h3_15 r9a r9b
                                                      as_aux_lemma =>
                                                        go_upto_region 55 with fail
                                                        go_cut [374] from 354 to 374 (fun r wd => r = .bool false ∧ ∃ n, wd = m3.drewN n)
                                                        case first =>
                                                          as_aux_lemma =>
                                                            rcases hp1.out with ⟨rfl, rfl⟩ | ⟨i1, b1, bb1, oo1, c1, rfl, cc1, ee1⟩ <;> rcases hp2.out with ⟨rfl, rfl⟩ | ⟨i2, b2, bb2, oo2, c2, rfl, cc2, ee2⟩ <;> rcases hp3.out with ⟨rfl, rfl⟩ | ⟨i3, b3, bb3, oo3, c3, rfl, cc3, ee3⟩
                                                            all_goals first
                                                              | (exfalso; omega)
                                                              | (go_wp2; go_meet; refine ⟨?_, _, rfl⟩; first | rfl | (simp; omega))
                                                        case rest =>
                                                        as_aux_lemma =>
                                                          obtain ⟨rfl, nn, rfl⟩ := hcut
                                                          go_upto_region 57 with fail
                                                          go_cut [385] from 375 to 385 (fun r wd => r = .bool false ∧ ∃ n, wd = m3.drewN n)
                                                          case first =>
                                                            as_aux_lemma =>
                                                              rcases hp2.out with ⟨rfl, rfl⟩ | ⟨i2, b2, bb2, oo2, c2, rfl, cc2, ee2⟩
                                                              all_goals first
                                                                | (exfalso; omega)
                                                                | (go_wp2; go_meet; refine ⟨?_, _, rfl⟩; first | rfl | (simp; omega))
                                                          case rest =>
                                                          as_aux_lemma =>
                                                            obtain ⟨rfl, nn, rfl⟩ := hcut
                                                            go_upto_region 59 with fail
                                                            go_cut [396] from 386 to 396 (fun r wd => r = .bool false ∧ ∃ n, wd = m3.drewN n)
                                                            case first =>
                                                              as_aux_lemma =>
                                                                rcases hp3.out with ⟨rfl, rfl⟩ | ⟨i3, b3, bb3, oo3, c3, rfl, cc3, ee3⟩
                                                                all_goals first
                                                                  | (exfalso; omega)
                                                                  | (go_wp2; go_meet; refine ⟨?_, _, rfl⟩; first | rfl | (simp; omega))
                                                            case rest =>
                                                            as_aux_lemma =>
                                                              obtain ⟨rfl, nn, rfl⟩ := hcut
                                                              go_upto_if 398 with fail
                                                              go_cut [] from 397 to 449 (fun wd => ∃ n, wd = m3.drewN n)
                                                              case first =>
                                                                as_aux_lemma =>
                                                                  rcases hp1.out with ⟨rfl, rfl⟩ | ⟨i1, b1, bb1, oo1, c1, rfl, cc1, ee1⟩
                                                                  · obtain rfl : k9 = 0 := by omega
                                                                    obtain rfl : R9 = 0 := by omega
                                                                    go_wp2
                                                                    go_meet
                                                                    case rel => exact ⟨_, rfl⟩
                                                                  · have r9b : (k9 : Int) + (R9 : Int) = (L9 : Int) := by omega
                                                                    go_wp2
                                                                    go_loopw [25] (fun i wl => ∃ (k n : Nat), k ≤ k9 ∧ i = .int .i64 k ∧ wl = m3.drewN n) (fun i _ => k9 - (intOf i).toNat)
                                                                    case atStart => exact ⟨0, _, Nat.zero_le _, rfl, rfl⟩
                                                                    case round =>
                                                                      obtain ⟨j, n, hj, rfl, rfl⟩ := hrel
                                                                      by_cases hlt : j < k9
                                                                      · rcases hp2.out with ⟨rfl, rfl⟩ | ⟨i2, b2, bb2, oo2, c2, rfl, cc2, ee2⟩
                                                                        · exfalso; omega
                                                                        · have hlt' : (j : Int) < (k9 : Int) := by omega
                                                                          have hj0 : (0 : Int) ≤ (j : Int) := by omega
                                                                          have hj1 : (j : Int) < (L9 : Int) := by omega
                                                                          obtain ⟨x, hx⟩ : ∃ x, e.P[j]? = some x := ⟨_, List.getElem?_eq_getElem (by rw [NL9.out]; omega)⟩
                                                                          have p1 := ee1.out j x hx
                                                                          have p2 := ee2.out j x (by rw [List.getElem?_take_of_lt (by omega)]; exact hx)
                                                                          obtain ⟨p10, p11⟩ := p1
                                                                          obtain ⟨p20, p21⟩ := p2
                                                                          clear hx
                                                                          go_wp2
                                                                          go_quiet (fail)
                                                                          go_wp2
                                                                          go_roundw
                                                                          case rel => exact ⟨j + 1, _, by omega, by go_num, rfl⟩
                                                                          case measure => go_light; simp [intOf]; omega
                                                                      · have hlt' : ¬ (j : Int) < (k9 : Int) := by omega
                                                                        go_wp2
                                                                        go_loopw [26] (fun i wl => ∃ (k n : Nat), k ≤ R9 ∧ i = .int .i64 k ∧ wl = m3.drewN n) (fun i _ => R9 - (intOf i).toNat)
                                                                        case atStart => exact ⟨0, _, Nat.zero_le _, rfl, rfl⟩
                                                                        case round =>
                                                                          obtain ⟨j, n, hj, rfl, rfl⟩ := hrel
                                                                          by_cases hlt : j < R9
                                                                          · rcases hp3.out with ⟨rfl, rfl⟩ | ⟨i3, b3, bb3, oo3, c3, rfl, cc3, ee3⟩
                                                                            · exfalso; omega
                                                                            · have hlt' : (j : Int) < (R9 : Int) := by omega
                                                                              have hj0 : (0 : Int) ≤ (j : Int) := by omega
                                                                              have hj1 : (k9 : Int) + (j : Int) < (L9 : Int) := by omega
                                                                              have hj2 : (0 : Int) ≤ (k9 : Int) + (j : Int) := by omega
                                                                              have hj3 : ((k9 : Int) + (j : Int)).toNat = k9 + j := by omega
                                                                              obtain ⟨x, hx⟩ : ∃ x, e.P[k9 + j]? = some x := ⟨_, List.getElem?_eq_getElem (by rw [NL9.out]; omega)⟩
                                                                              have p1 := ee1.out (k9 + j) x hx
                                                                              have p2 := ee3.out j x (by rw [List.getElem?_drop]; exact hx)
                                                                              obtain ⟨p10, p11⟩ := p1
                                                                              obtain ⟨p20, p21⟩ := p2
                                                                              clear hx
                                                                              go_wp2
                                                                              go_quiet (fail)
                                                                              go_wp2
                                                                              go_roundw
                                                                              case rel => exact ⟨j + 1, _, by omega, by go_num, rfl⟩
                                                                              case measure => go_light; simp [intOf]; omega
                                                                          · have hlt' : ¬ (j : Int) < (R9 : Int) := by omega
                                                                            go_wp2
                                                                            go_meet
                                                                            case rel => exact ⟨_, rfl⟩
                                                              case rest =>
                                                              as_aux_lemma =>
                                                                obtain ⟨nn, rfl⟩ := hcut
                                                                clear hp1 hp2 hp3 y9
                                                                -- ████ B
                                                                have h1_16 : m3.cell? ⟨H1, 16, none⟩ = some (.pointer bq1) := MN1.out.cell 16
                                                                have h2_16 : m3.cell? ⟨H2, 16, none⟩ = some (.pointer bq2) := MN2.out.cell 16
                                                                have h3_16 : m3.cell? ⟨H3, 16, none⟩ = some (.pointer bq3) := MN3.out.cell 16
                                                                obtain ⟨R10, hR10⟩ : ∃ R, L10 = k10 + R := ⟨L10 - k10, by omega⟩
                                                                have r10a : (L10 : Int) - (k10 : Int) = (R10 : Int) := by omega
                                                                have r10b : (k10 : Int) + (R10 : Int) = (L10 : Int) := by omega
                                                                have r10c : L10 ≤ k10 + R10 := by omega
                                                                have r10d : k10 + R10 ≤ L10 := by omega
                                                                have HR10 := Hid.mk' hR10
                                                                clear hR10
                                                                have hp1 := Hid.mk' (show (L10 = 0 ∧ bq1 = none) ∨ (¬ (L10 : Int) = 0 ∧ ∃ b bb oo c, bq1 = some ⟨b, 0, none⟩ ∧ m3.cell? ⟨b, 0, none⟩ = some (.slice (some ⟨bb, oo, none⟩) L10 c) ∧ Hid (∀ (j : Nat) x, e.B[j]? = some x → ElemTrips m3 bb oo j x)) from by have hh := MN1.out.B; exact Bads.parts (Ps := e.B) hh (NL10.out))
                                                                have hp2 := Hid.mk' (show (k10 = 0 ∧ bq2 = none) ∨ (¬ (k10 : Int) = 0 ∧ ∃ b bb oo c, bq2 = some ⟨b, 0, none⟩ ∧ m3.cell? ⟨b, 0, none⟩ = some (.slice (some ⟨bb, oo, none⟩) k10 c) ∧ Hid (∀ (j : Nat) x, (e.B.take k10)[j]? = some x → ElemTrips m3 bb oo j x)) from by have hh := MN2.out.B; rw [HEL.out, HKE.out] at hh; exact Bads.parts (Ps := (e.B.take k10)) hh (by rw [List.length_take, NL10.out]; omega))
                                                                have hp3 := Hid.mk' (show (R10 = 0 ∧ bq3 = none) ∨ (¬ (R10 : Int) = 0 ∧ ∃ b bb oo c, bq3 = some ⟨b, 0, none⟩ ∧ m3.cell? ⟨b, 0, none⟩ = some (.slice (some ⟨bb, oo, none⟩) R10 c) ∧ Hid (∀ (j : Nat) x, (e.B.drop k10)[j]? = some x → ElemTrips m3 bb oo j x)) from by have hh := MN3.out.B; rw [HER.out, HKE.out] at hh; exact Bads.parts (Ps := (e.B.drop k10)) hh (by rw [List.length_drop, NL10.out]; omega))
                                                                go_upto_region 79 with fail
                                                                clear h1_16 h2_16 h3_16 r10a r10b
                                                                as_aux_lemma =>
                                                                  go_upto_region 79 with fail
                                                                  go_cut [491] from 471 to 491 (fun r wd => r = .bool false ∧ ∃ n, wd = m3.drewN n)
                                                                  case first =>
                                                                    as_aux_lemma =>
                                                                      rcases hp1.out with ⟨rfl, rfl⟩ | ⟨i1, b1, bb1, oo1, c1, rfl, cc1, ee1⟩ <;> rcases hp2.out with ⟨rfl, rfl⟩ | ⟨i2, b2, bb2, oo2, c2, rfl, cc2, ee2⟩ <;> rcases hp3.out with ⟨rfl, rfl⟩ | ⟨i3, b3, bb3, oo3, c3, rfl, cc3, ee3⟩
                                                                      all_goals first
                                                                        | (exfalso; omega)
                                                                        | (go_wp2; go_meet; refine ⟨?_, _, rfl⟩; first | rfl | (simp; omega))
                                                                  case rest =>
                                                                  as_aux_lemma =>
                                                                    obtain ⟨rfl, nn, rfl⟩ := hcut
                                                                    go_upto_region 81 with fail
                                                                    go_cut [502] from 492 to 502 (fun r wd => r = .bool false ∧ ∃ n, wd = m3.drewN n)
                                                                    case first =>
                                                                      as_aux_lemma =>
                                                                        rcases hp2.out with ⟨rfl, rfl⟩ | ⟨i2, b2, bb2, oo2, c2, rfl, cc2, ee2⟩
                                                                        all_goals first
                                                                          | (exfalso; omega)
                                                                          | (go_wp2; go_meet; refine ⟨?_, _, rfl⟩; first | rfl | (simp; omega))
                                                                    case rest =>
                                                                    as_aux_lemma =>
                                                                      obtain ⟨rfl, nn, rfl⟩ := hcut
                                                                      go_upto_region 83 with fail
                                                                      go_cut [513] from 503 to 513 (fun r wd => r = .bool false ∧ ∃ n, wd = m3.drewN n)
                                                                      case first =>
                                                                        as_aux_lemma =>
                                                                          rcases hp3.out with ⟨rfl, rfl⟩ | ⟨i3, b3, bb3, oo3, c3, rfl, cc3, ee3⟩
                                                                          all_goals first
                                                                            | (exfalso; omega)
                                                                            | (go_wp2; go_meet; refine ⟨?_, _, rfl⟩; first | rfl | (simp; omega))
                                                                      case rest =>
                                                                      as_aux_lemma =>
                                                                        obtain ⟨rfl, nn, rfl⟩ := hcut
                                                                        go_upto_if 515 with fail
                                                                        go_cut [] from 514 to 566 (fun wd => ∃ n, wd = m3.drewN n)
                                                                        case first =>
                                                                          as_aux_lemma =>
                                                                            rcases hp1.out with ⟨rfl, rfl⟩ | ⟨i1, b1, bb1, oo1, c1, rfl, cc1, ee1⟩
                                                                            · obtain rfl : k10 = 0 := by omega
                                                                              obtain rfl : R10 = 0 := by omega
                                                                              go_wp2
                                                                              go_meet
                                                                              case rel => exact ⟨_, rfl⟩
                                                                            · have r10b : (k10 : Int) + (R10 : Int) = (L10 : Int) := by omega
                                                                              go_wp2
                                                                              go_loopw [32] (fun i wl => ∃ (k n : Nat), k ≤ k10 ∧ i = .int .i64 k ∧ wl = m3.drewN n) (fun i _ => k10 - (intOf i).toNat)
                                                                              case atStart => exact ⟨0, _, Nat.zero_le _, rfl, rfl⟩
                                                                              case round =>
                                                                                obtain ⟨j, n, hj, rfl, rfl⟩ := hrel
                                                                                by_cases hlt : j < k10
                                                                                · rcases hp2.out with ⟨rfl, rfl⟩ | ⟨i2, b2, bb2, oo2, c2, rfl, cc2, ee2⟩
                                                                                  · exfalso; omega
                                                                                  · have hlt' : (j : Int) < (k10 : Int) := by omega
                                                                                    have hj0 : (0 : Int) ≤ (j : Int) := by omega
                                                                                    have hj1 : (j : Int) < (L10 : Int) := by omega
                                                                                    obtain ⟨x, hx⟩ : ∃ x, e.B[j]? = some x := ⟨_, List.getElem?_eq_getElem (by rw [NL10.out]; omega)⟩
                                                                                    have p1 := ee1.out j x hx
                                                                                    have p2 := ee2.out j x (by rw [List.getElem?_take_of_lt (by omega)]; exact hx)
                                                                                    obtain ⟨p10, p11, p12⟩ := p1
                                                                                    obtain ⟨p20, p21, p22⟩ := p2
                                                                                    clear hx
                                                                                    go_wp2
                                                                                    go_quiet (fail)
                                                                                    go_wp2
                                                                                    go_roundw
                                                                                    case rel => exact ⟨j + 1, _, by omega, by go_num, rfl⟩
                                                                                    case measure => go_light; simp [intOf]; omega
                                                                                · have hlt' : ¬ (j : Int) < (k10 : Int) := by omega
                                                                                  go_wp2
                                                                                  go_loopw [33] (fun i wl => ∃ (k n : Nat), k ≤ R10 ∧ i = .int .i64 k ∧ wl = m3.drewN n) (fun i _ => R10 - (intOf i).toNat)
                                                                                  case atStart => exact ⟨0, _, Nat.zero_le _, rfl, rfl⟩
                                                                                  case round =>
                                                                                    obtain ⟨j, n, hj, rfl, rfl⟩ := hrel
                                                                                    by_cases hlt : j < R10
                                                                                    · rcases hp3.out with ⟨rfl, rfl⟩ | ⟨i3, b3, bb3, oo3, c3, rfl, cc3, ee3⟩
                                                                                      · exfalso; omega
                                                                                      · have hlt' : (j : Int) < (R10 : Int) := by omega
                                                                                        have hj0 : (0 : Int) ≤ (j : Int) := by omega
                                                                                        have hj1 : (k10 : Int) + (j : Int) < (L10 : Int) := by omega
                                                                                        have hj2 : (0 : Int) ≤ (k10 : Int) + (j : Int) := by omega
                                                                                        have hj3 : ((k10 : Int) + (j : Int)).toNat = k10 + j := by omega
                                                                                        obtain ⟨x, hx⟩ : ∃ x, e.B[k10 + j]? = some x := ⟨_, List.getElem?_eq_getElem (by rw [NL10.out]; omega)⟩
                                                                                        have p1 := ee1.out (k10 + j) x hx
                                                                                        have p2 := ee3.out j x (by rw [List.getElem?_drop]; exact hx)
                                                                                        obtain ⟨p10, p11, p12⟩ := p1
                                                                                        obtain ⟨p20, p21, p22⟩ := p2
                                                                                        clear hx
                                                                                        go_wp2
                                                                                        go_quiet (fail)
                                                                                        go_wp2
                                                                                        go_roundw
                                                                                        case rel => exact ⟨j + 1, _, by omega, by go_num, rfl⟩
                                                                                        case measure => go_light; simp [intOf]; omega
                                                                                    · have hlt' : ¬ (j : Int) < (R10 : Int) := by omega
                                                                                      go_wp2
                                                                                      go_meet
                                                                                      case rel => exact ⟨_, rfl⟩
                                                                        case rest =>
                                                                        as_aux_lemma =>
                                                                          obtain ⟨nn, rfl⟩ := hcut
                                                                          clear hp1 hp2 hp3 y10
                                                                          -- ████ Targets
                                                                          obtain ⟨R12, hR12⟩ : ∃ R, L12 = k12 + R := ⟨L12 - k12, by omega⟩
                                                                          have r12a : (L12 : Int) - (k12 : Int) = (R12 : Int) := by omega
                                                                          have r12b : (k12 : Int) + (R12 : Int) = (L12 : Int) := by omega
                                                                          have r12c : L12 ≤ k12 + R12 := by omega
                                                                          have r12d : k12 + R12 ≤ L12 := by omega
                                                                          have r12e : L12 - k12 = R12 := by omega
                                                                          have HR12 := Hid.mk' hR12
                                                                          clear hR12
                                                                          rw [r12e] at h3_17 ZvI3
                                                                          have ZLvI2 := Hid.mk' (show (e.Tg.take k12).length = k12 by rw [List.length_take, NL12.out]; omega)
                                                                          have ZLvI3 := Hid.mk' (show (e.Tg.drop k12).length = R12 by rw [List.length_drop, NL12.out]; omega)
                                                                          clear r12e
                                                                          go_wp2
                                                                          go_loopw [36] (fun i wl => ∃ (k n : Nat), k ≤ k12 ∧ i = .int .i64 k ∧ wl = m3.drewN n) (fun i _ => k12 - (intOf i).toNat)
                                                                          case atStart => exact ⟨0, _, Nat.zero_le _, rfl, rfl⟩
                                                                          case round =>
                                                                            obtain ⟨j, n, hj, rfl, rfl⟩ := hrel
                                                                            by_cases hlt : j < k12
                                                                            · obtain rfl := ZvI1.out.1 (by omega)
                                                                              obtain rfl := ZvI2.out.1 (by omega)
                                                                              have hlt' : (j : Int) < (k12 : Int) := by omega
                                                                              have hj0 : (0 : Int) ≤ (j : Int) := by omega
                                                                              have hj1 : (j : Int) < (L12 : Int) := by omega
                                                                              obtain ⟨x, hx⟩ : ∃ x, (e.Tg.take k12)[j]? = some x := ⟨_, List.getElem?_eq_getElem (by rw [ZLvI2.out]; omega)⟩
                                                                              have p1 := ZvI1.out.2 j x (get_take hx).2
                                                                              have p2 := ZvI2.out.2 j x hx
                                                                              obtain ⟨p10, p11⟩ := p1
                                                                              obtain ⟨p20, p21⟩ := p2
                                                                              clear hx
                                                                              go_wp2
                                                                              go_quiet (fail)
                                                                              go_wp2
                                                                              go_roundw
                                                                              case rel => exact ⟨j + 1, _, by omega, by go_num, rfl⟩
                                                                              case measure => go_light; simp [intOf]; omega
                                                                            · have hlt' : ¬ (j : Int) < (k12 : Int) := by omega
                                                                              go_wp2
                                                                              go_loopw [37] (fun i wl => ∃ (k n : Nat), k ≤ R12 ∧ i = .int .i64 k ∧ wl = m3.drewN n) (fun i _ => R12 - (intOf i).toNat)
                                                                              case atStart => exact ⟨0, _, Nat.zero_le _, rfl, rfl⟩
                                                                              case round =>
                                                                                obtain ⟨j, n, hj, rfl, rfl⟩ := hrel
                                                                                by_cases hlt : j < R12
                                                                                · obtain rfl := ZvI1.out.1 (by omega)
                                                                                  obtain rfl := ZvI3.out.1 (by omega)
                                                                                  have hlt' : (j : Int) < (R12 : Int) := by omega
                                                                                  have hj0 : (0 : Int) ≤ (j : Int) := by omega
                                                                                  have hj1 : (k12 : Int) + (j : Int) < (L12 : Int) := by omega
                                                                                  have hj2 : (0 : Int) ≤ (k12 : Int) + (j : Int) := by omega
                                                                                  have hj3 : ((k12 : Int) + (j : Int)).toNat = k12 + j := by omega
                                                                                  obtain ⟨x, hx⟩ : ∃ x, (e.Tg.drop k12)[j]? = some x := ⟨_, List.getElem?_eq_getElem (by rw [ZLvI3.out]; omega)⟩
                                                                                  have p1 := ZvI1.out.2 (k12 + j) x (get_drop hx)
                                                                                  have p2 := ZvI3.out.2 j x hx
                                                                                  obtain ⟨p10, p11⟩ := p1
                                                                                  obtain ⟨p20, p21⟩ := p2
                                                                                  clear hx
                                                                                  go_wp2
                                                                                  go_quiet (fail)
                                                                                  go_wp2
                                                                                  go_roundw
                                                                                  case rel => exact ⟨j + 1, _, by omega, by go_num, rfl⟩
                                                                                  case measure => go_light; simp [intOf]; omega
                                                                                · have hlt' : ¬ (j : Int) < (R12 : Int) := by omega
                                                                                  go_upto_region 112 with fail
                                                                                  clear y12 h1_17 h2_17 h3_17
                                                                                  as_aux_lemma =>
                                                                                    -- ████ Assets
                                                                                    have HAA := Hid.mk' (show assetsAll e.F = assetsAll (e.F.take k15) ++ assetsAll (e.F.drop k15) by simp only [assetsAll, ← List.flatMap_append, List.take_append_drop])
                                                                                    have ZLvA2 := NLT2
                                                                                    have ZLvA3 := NLT3
                                                                                    have rA : (LT2 : Int) + (LT3 : Int) = (LT1 : Int) := by have := HLT.out; omega
                                                                                    have rA1 : LT1 ≤ LT2 + LT3 := by have := HLT.out; omega
                                                                                    have rA2 : LT2 + LT3 ≤ LT1 := by have := HLT.out; omega
                                                                                    have rl := fun W : World => run_left (t := 68) (s := 5) Try.underlying68 (fun w => by go_simp) s.a15 L15 s.c15 k15 hk15 hc15 W
                                                                                    have A27 := Hid.mk' (show ∀ n, Calls Try.prog 27 #[.slice s.a15 k15 s.c15] (m3.drewN n) fun e' w'' => e' = .returned (.int .i64 (LT2 : Int)) ∧ w'' = m3.drewN n from fun n => by
                                                                                      have hF := LW.out.F.below (below_drewN (Below.refl _ m3) n)
                                                                                      rw [V15.out, ← NL15.out] at hF
                                                                                      refine (assets27 _ (e.F.take k15) (m3.drewN n) (hF.left (by rw [NL15.out]; exact hk15)) (le_take _ _ _ HS.out.F.1) (fun x hx => HS.out.F.2 x (List.mem_of_mem_take hx))).mono ?_
                                                                                      rintro e' w' ⟨h1, h2⟩
                                                                                      exact ⟨by rw [h1, NLT2.out], h2⟩)
                                                                                    go_wp2_with fail
                                                                                    refine (A27.out _).mono ?_
                                                                                    rintro _ _ ⟨rfl, rfl⟩
                                                                                    clear A27 rl
                                                                                    go_wp2
                                                                                    go_loopw [40] (fun i wl => ∃ (k n : Nat), k ≤ LT2 ∧ i = .int .i64 k ∧ wl = m3.drewN n) (fun i _ => LT2 - (intOf i).toNat)
                                                                                    case atStart => exact ⟨0, _, Nat.zero_le _, rfl, rfl⟩
                                                                                    case round =>
                                                                                      obtain ⟨j, n, hj, rfl, rfl⟩ := hrel
                                                                                      by_cases hlt : j < LT2
                                                                                      · obtain rfl := ZvA1.out.1 (by omega)
                                                                                        obtain rfl := ZvA2.out.1 (by omega)
                                                                                        have hlt' : (j : Int) < (LT2 : Int) := by omega
                                                                                        have hj0 : (0 : Int) ≤ (j : Int) := by omega
                                                                                        have hj1 : (j : Int) < (LT1 : Int) := by omega
                                                                                        obtain ⟨x, hx⟩ : ∃ x, (assetsAll (e.F.take k15))[j]? = some x := ⟨_, List.getElem?_eq_getElem (by rw [ZLvA2.out]; omega)⟩
                                                                                        have p1 := ZvA1.out.2 j x (by rw [HAA.out, List.getElem?_append_left (by rw [NLT2.out]; omega)]; exact hx)
                                                                                        have p2 := ZvA2.out.2 j x hx
                                                                                        obtain ⟨p10, p11, p12⟩ := p1
                                                                                        obtain ⟨p20, p21, p22⟩ := p2
                                                                                        clear hx
                                                                                        go_wp2
                                                                                        go_quiet (fail)
                                                                                        go_wp2
                                                                                        go_roundw
                                                                                        case rel => exact ⟨j + 1, _, by omega, by go_num, rfl⟩
                                                                                        case measure => go_light; simp [intOf]; omega
                                                                                      · have hlt' : ¬ (j : Int) < (LT2 : Int) := by omega
                                                                                        go_wp2
                                                                                        go_loopw [41] (fun i wl => ∃ (k n : Nat), k ≤ LT3 ∧ i = .int .i64 k ∧ wl = m3.drewN n) (fun i _ => LT3 - (intOf i).toNat)
                                                                                        case atStart => exact ⟨0, _, Nat.zero_le _, rfl, rfl⟩
                                                                                        case round =>
                                                                                          obtain ⟨j, n, hj, rfl, rfl⟩ := hrel
                                                                                          by_cases hlt : j < LT3
                                                                                          · obtain rfl := ZvA1.out.1 (by omega)
                                                                                            obtain rfl := ZvA3.out.1 (by omega)
                                                                                            have hlt' : (j : Int) < (LT3 : Int) := by omega
                                                                                            have hj0 : (0 : Int) ≤ (j : Int) := by omega
                                                                                            have hj1 : (LT2 : Int) + (j : Int) < (LT1 : Int) := by omega
                                                                                            have hj2 : (0 : Int) ≤ (LT2 : Int) + (j : Int) := by omega
                                                                                            have hj3 : ((LT2 : Int) + (j : Int)).toNat = LT2 + j := by omega
                                                                                            obtain ⟨x, hx⟩ : ∃ x, (assetsAll (e.F.drop k15))[j]? = some x := ⟨_, List.getElem?_eq_getElem (by rw [ZLvA3.out]; omega)⟩
                                                                                            have p1 := ZvA1.out.2 (LT2 + j) x (by rw [HAA.out, List.getElem?_append_right (by rw [NLT2.out]; omega), NLT2.out, Nat.add_sub_cancel_left]; exact hx)
                                                                                            have p2 := ZvA3.out.2 j x hx
                                                                                            obtain ⟨p10, p11, p12⟩ := p1
                                                                                            obtain ⟨p20, p21, p22⟩ := p2
                                                                                            clear hx
                                                                                            go_wp2
                                                                                            go_quiet (fail)
                                                                                            go_wp2
                                                                                            go_roundw
                                                                                            case rel => exact ⟨j + 1, _, by omega, by go_num, rfl⟩
                                                                                            case measure => go_light; simp [intOf]; omega
                                                                                          · have hlt' : ¬ (j : Int) < (LT3 : Int) := by omega
                                                                                            go_wp2
                                                                                            go_ret
                                                                                            exact ⟨rfl, below_drewN BW.out _⟩
end Go.Proofs.Qxb6616617a.W
