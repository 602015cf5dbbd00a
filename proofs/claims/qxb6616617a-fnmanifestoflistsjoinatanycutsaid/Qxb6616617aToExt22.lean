/-
  vsixB1ToExtension: a copy in memory of its own.
-/
import Derived.Test.Qxb6616617aElem
namespace Go.Proofs.Qxb6616617a.W
open Go.ChangeShapes Go.WideShapes Go.ChangeAt Go.RowKit
set_option linter.unusedVariables false

set_option maxRecDepth 100000 in
set_option maxHeartbeats 16000000 in
theorem toExt22 (e : E) (N : Nat) (w : World) (h : e.Lies w) (hwf : e.Wf) (hsm : e.Small) (hN : ∀ i, i < 16 → w.cell? ⟨N, i, none⟩ = e.cells[i]?) (hNl : N < w.heap.size) :
    Calls Try.prog 22 #[.pointer (some ⟨N, 0, none⟩)] w fun x w' => Copied e w x w' := by
  have d0 : w.cell? ⟨N, 0, none⟩ = some (.string e.s0) := hN 0 (by omega)
  have d1 : w.cell? ⟨N, 1, none⟩ = some (.string e.s1) := hN 1 (by omega)
  have d2 : w.cell? ⟨N, 2, none⟩ = some (.string e.s2) := hN 2 (by omega)
  have d3 : w.cell? ⟨N, 3, none⟩ = some (.string e.s3) := hN 3 (by omega)
  have d4 : w.cell? ⟨N, 4, none⟩ = some (.string e.s4) := hN 4 (by omega)
  have d5 : w.cell? ⟨N, 5, none⟩ = some (.string e.s5) := hN 5 (by omega)
  have d6 : w.cell? ⟨N, 6, none⟩ = some (.string e.s6) := hN 6 (by omega)
  have d7 : w.cell? ⟨N, 7, none⟩ = some e.v7 := hN 7 (by omega)
  obtain ⟨a7, c7, hv7⟩ : ∃ a c, e.v7 = .slice a e.T.length c := by obtain ⟨b, o, ⟨a, c, hv, _⟩, _⟩ := h.T; exact ⟨a, c, hv⟩
  obtain ⟨L7, HL7⟩ : ∃ L, e.T.length = L := ⟨_, rfl⟩
  rw [hv7, HL7] at d7
  rw [HL7] at hv7
  have V7 := Hid.mk' hv7
  clear HL7 hv7
  have d8 : w.cell? ⟨N, 8, none⟩ = some e.v8 := hN 8 (by omega)
  obtain ⟨a8, c8, hv8⟩ : ∃ a c, e.v8 = .slice a e.G.length c := by obtain ⟨b, o, ⟨a, c, hv, _⟩, _⟩ := h.G; exact ⟨a, c, hv⟩
  obtain ⟨L8, HL8⟩ : ∃ L, e.G.length = L := ⟨_, rfl⟩
  rw [hv8, HL8] at d8
  rw [HL8] at hv8
  have V8 := Hid.mk' hv8
  clear HL8 hv8
  have d11 : w.cell? ⟨N, 11, none⟩ = some e.v11 := hN 11 (by omega)
  obtain ⟨a11, c11, hv11⟩ : ∃ a c, e.v11 = .slice a e.C.length c := by obtain ⟨b, o, ⟨a, c, hv, _⟩, _⟩ := h.C; exact ⟨a, c, hv⟩
  obtain ⟨L11, HL11⟩ : ∃ L, e.C.length = L := ⟨_, rfl⟩
  rw [hv11, HL11] at d11
  rw [HL11] at hv11
  have V11 := Hid.mk' hv11
  clear HL11 hv11
  have d14 : w.cell? ⟨N, 14, none⟩ = some e.v14 := hN 14 (by omega)
  obtain ⟨a14, c14, hv14⟩ : ∃ a c, e.v14 = .slice a e.M.length c := by obtain ⟨b, o, ⟨a, c, hv, _⟩, _⟩ := h.M; exact ⟨a, c, hv⟩
  obtain ⟨L14, HL14⟩ : ∃ L, e.M.length = L := ⟨_, rfl⟩
  rw [hv14, HL14] at d14
  rw [HL14] at hv14
  have V14 := Hid.mk' hv14
  clear HL14 hv14
  have HN := Hid.mk' hN
  have HH := Hid.mk' h
  have HSm := Hid.mk' hsm
  clear hN h hwf hsm
  have nn := World.new_ne w ⟨N, 0, none⟩ d0
  have nl : N < w.heap.size + 1 := by omega
  go_enter Try.func22, Try.ntmps22
  go_wp2
  go_region_held3 (fun w' => w'.cell? ⟨N, 0, none⟩ = some (.string e.s0) ∧ w'.cell? ⟨N, 1, none⟩ = some (.string e.s1) ∧ w'.cell? ⟨N, 2, none⟩ = some (.string e.s2) ∧ w'.cell? ⟨N, 3, none⟩ = some (.string e.s3) ∧ w'.cell? ⟨N, 4, none⟩ = some (.string e.s4) ∧ w'.cell? ⟨N, 5, none⟩ = some (.string e.s5) ∧ w'.cell? ⟨N, 6, none⟩ = some (.string e.s6) ∧ w'.cell? ⟨N, 7, none⟩ = some (.slice a7 L7 c7) ∧ w'.cell? ⟨N, 8, none⟩ = some (.slice a8 L8 c8) ∧ w'.cell? ⟨N, 11, none⟩ = some (.slice a11 L11 c11) ∧ w'.cell? ⟨N, 14, none⟩ = some (.slice a14 L14 c14)) (first | go_keep | (simp only [World.cell?_drew]; go_keep) | simp [*, World.cell?_alloc_past]) (fail)
  obtain ⟨wc, hwc⟩ : ∃ wc, ((w.alloc (.cells #[.string { data := #[] }, .string { data := #[] }, .string { data := #[] }, .string { data := #[] }, .string { data := #[] }, .string { data := #[] }, .string { data := #[] }, .slice none 0 0, .slice none 0 0, .slice none 0 0, .slice none 0 0, .slice none 0 0, .slice none 0 0, .slice none 0 0, .slice none 0 0, .slice none 0 0] 80)).alloc (.cells #[.string e.s0, .string e.s1, .string e.s2, .string e.s3, .string e.s4, .string e.s5, .string e.s6, .slice a7 L7 c7, .slice a8 L8 c8, .slice none 0 0, .slice none 0 0, .slice a11 L11 c11, .slice none 0 0, .slice none 0 0, .slice a14 L14 c14, .slice none 0 0] 80)).drew = wc := ⟨_, rfl⟩
  rw [hwc]
  have st : St w wc #[.string e.s0, .string e.s1, .string e.s2, .string e.s3, .string e.s4, .string e.s5, .string e.s6, .slice a7 L7 c7, .slice a8 L8 c8, .slice none 0 0, .slice none 0 0, .slice a11 L11 c11, .slice none 0 0, .slice none 0 0, .slice a14 L14 c14, .slice none 0 0] := by rw [← hwc]; exact St.start _ _
  clear hwc
  as_aux_lemma =>
    clear d0 d1 d2 d3 d4 d5 d6 d7 d8 d11 d14 nn nl
    have S0 := Hid.mk' st
    clear st
    -- ████ P
    obtain ⟨a9, c9, b9, o9, hv9, A9, Z9, C9⟩ : ∃ (a : Option Addr) (c b o : Nat), e.v9 = .slice a e.P.length c ∧ Hid (0 < e.P.length → a = some ⟨b, o, none⟩ ∧ b < w.heap.size) ∧ Hid (a = none → e.P.length = 0 ∧ c = 0) ∧ Hid (∀ (j : Nat) x, e.P[j]? = some x → ElemPairs w b o j x) := by
      obtain ⟨b, o, ⟨a, c, h1, h2, h3⟩, h4⟩ := HH.out.P
      exact ⟨a, c, b, o, h1, h2, h3, h4⟩
    obtain ⟨L9, HL9⟩ : ∃ L, e.P.length = L := ⟨_, rfl⟩
    have d9 : wc.cell? ⟨N, 9, none⟩ = some (.slice a9 L9 c9) := by rw [S0.out.below.cell (p := ⟨N, 9, none⟩) hNl, HN.out 9 (by omega), ← HL9, ← hv9]; rfl
    have x9 : wc.cell? ⟨w.heap.size + 1, 9, none⟩ = some (.slice none 0 0) := S0.out.cell 9
    have y9 : wc.frozen? ⟨w.heap.size + 1, 9, none⟩ = false := S0.out.free 9
    have hsz0 : w.heap.size + 2 ≤ wc.heap.size := S0.out.size
    have hL9 : L9 ≤ 1048576 := by rw [← HL9]; exact HSm.out.P
    rw [HL9] at A9 Z9
    have NL9 := Hid.mk' HL9
    clear HL9 hv9
    have rn9 := fun (w : World) (a : Option Addr) (l c : Nat) => run_neq_slice_nil (P := Try.prog) w 64 107 a l c Try.underlying64
    go_upto_if 61 with fail
    go_cut [] from 57 to 98 (fun wd => ∃ vP, Hid (St w wd #[.string e.s0, .string e.s1, .string e.s2, .string e.s3, .string e.s4, .string e.s5, .string e.s6, .slice a7 L7 c7, .slice a8 L8 c8, vP, .slice none 0 0, .slice a11 L11 c11, .slice none 0 0, .slice none 0 0, .slice a14 L14 c14, .slice none 0 0] ∧ PairsA (w.heap.size + 2) wd vP e.P ∧ Above (w.heap.size + 2) wc wd))
    case first =>
      as_aux_lemma =>
        cases a9 with
        | none =>
          obtain ⟨h1, h2⟩ := Z9.out rfl
          subst h1
          subst h2
          go_wp2
          go_meet
          case rel => exact ⟨_, S0.out, PairsA.nil _ _ NL9.out, Above.refl _ _⟩
        | some ad =>
          obtain ⟨i0, z0, hi, hz, hz1, hz2⟩ := info_ex (e := 133) (size := 2) (bytes := 32) (by kernel_rfl)
          obtain ⟨mc, hmc, hmk⟩ := make_eq 74 133 i0 z0 2 32 L9 Try.underlying74 hi hz hz1 hz2 (by omega) hL9
          clear hi hz hz1 hz2
          have nz : w.heap.size + 1 ≠ wc.heap.size := by omega
          have nz' : w.heap.size + 1 < wc.heap.size := by omega
          have nN : N < wc.heap.size := by omega
          have nz2 : wc.heap.size ≠ w.heap.size + 1 := by omega
          have nN2 : wc.heap.size ≠ N := by omega
          go_wp2
          clear hmk
          go_loopw [4] (fun i wl => ∃ k : Nat, k ≤ L9 ∧ i = .int .i64 k ∧ Hid (Below wc.heap.size (wc.setCell ⟨w.heap.size + 1, 9, none⟩ (.slice (some ⟨wc.heap.size, 0, none⟩) L9 L9)) wl ∧ wc.heap.size < wl.heap.size ∧ Row wl wc.heap.size (L9 * 2) (tgt2 e.P) (k * 2))) (fun i _ => L9 - (intOf i).toNat)
          case atStart => exact ⟨0, Nat.zero_le _, rfl, (Below.refl _ _).alloc (by simp [World.setCell]) _, by simp [World.setCell], by rw [← hmc]; have := Row.made (wc.setCell ⟨w.heap.size + 1, 9, none⟩ (.slice (some ⟨wc.heap.size, 0, none⟩) L9 L9)) mc 133 (tgt2 e.P); simpa [World.setCell] using this⟩
          case round =>
            obtain ⟨k, hk, rfl, HR⟩ := hrel
            have SL : Hid (St w wr #[.string e.s0, .string e.s1, .string e.s2, .string e.s3, .string e.s4, .string e.s5, .string e.s6, .slice a7 L7 c7, .slice a8 L8 c8, (.slice (some ⟨wc.heap.size, 0, none⟩) L9 L9), .slice none 0 0, .slice a11 L11 c11, .slice none 0 0, .slice none 0 0, .slice a14 L14 c14, .slice none 0 0]) := by
              have s1 := S0.out.set 9 (.slice (some ⟨wc.heap.size, 0, none⟩) L9 L9)
              have hb := HR.out.1
              have e1 : (wc.setCell ⟨w.heap.size + 1, 9, none⟩ (.slice (some ⟨wc.heap.size, 0, none⟩) L9 L9)).heap.size = wc.heap.size := by simp [World.setCell]
              exact s1.next (by rw [e1]; exact hb)
            have xl : wr.cell? ⟨w.heap.size + 1, 9, none⟩ = some (.slice (some ⟨wc.heap.size, 0, none⟩) L9 L9) := SL.out.cell 9
            have dl : wr.cell? ⟨N, 9, none⟩ = some (.slice (some ad) L9 c9) := by rw [SL.out.below.cell (p := ⟨N, 9, none⟩) hNl, ← S0.out.below.cell (p := ⟨N, 9, none⟩) hNl]; exact d9
            have hwz : wc.heap.size < wr.heap.size := HR.out.2.1
            by_cases hlt : k < L9
            · obtain ⟨had, hb⟩ := A9.out (by omega)
              cases had
              have nb2 : wc.heap.size ≠ b9 := by omega
              obtain ⟨x, hx⟩ : ∃ x, e.P[k]? = some x := ⟨_, List.getElem?_eq_getElem (by rw [NL9.out]; exact hlt)⟩
              have g := (C9.out k x hx).below SL.out.below hb
              have HX := Hid.mk' hx
              obtain ⟨z0, q0, f0⟩ := HR.out.2.2.at (k * 2) (by omega)
              obtain ⟨z1, q1, f1⟩ := HR.out.2.2.at (k * 2 + 1) (by omega)
              clear hx
              have hlt' : (k : Int) < (L9 : Int) := by omega
              have hk0 : (0 : Int) ≤ (k : Int) := by omega
              obtain ⟨g1, g2⟩ := g
              go_wp2
              go_region_held3 (fun w' => w'.cell? ⟨w.heap.size + 1, 9, none⟩ = some (.slice (some ⟨wc.heap.size, 0, none⟩) L9 L9) ∧ w'.cell? ⟨N, 9, none⟩ = some (.slice (some ⟨b9, o9, none⟩) L9 c9) ∧ w'.cell? ⟨b9, o9 + k * 2, none⟩ = some (.string x.1) ∧ w'.cell? ⟨b9, o9 + k * 2 + 1, none⟩ = some (.string x.2)) (go_keep) (fail)
              go_wp2
              go_roundw
              case rel => (repeat apply Exists.intro); exact ⟨⟨k + 1, by omega, by go_num, below_drewN (Below.setCell (Below.setCell HR.out.1 (Nat.le_refl _) _) (Nat.le_refl _) _) 1, by simpa [World.setCell] using hwz, by rw [show (k + 1) * 2 = k * 2 + 2 by omega]; exact ((HR.out.2.2.step (by omega) (tgt2_0 HX.out)).step (by omega) (tgt2_1 HX.out)).drew⟩, rfl⟩
              case measure => go_light; simp [intOf]; omega
            · have hkL : k = L9 := by omega
              go_wp2
              go_meet
              case rel =>
                have hrow := HR.out.2.2
                rw [hkL, ← NL9.out] at hrow
                refine ⟨_, SL.out, ?_, (Above.set wc (a := ⟨w.heap.size + 1, 9, none⟩) (by show w.heap.size + 1 < w.heap.size + 2; omega) (.slice (some ⟨wc.heap.size, 0, none⟩) L9 L9)).trans (Above.below ?_)⟩
                · rw [← NL9.out]; exact PairsA.row hrow hwz (by omega)
                · have e1 : (wc.setCell ⟨w.heap.size + 1, 9, none⟩ (.slice (some ⟨wc.heap.size, 0, none⟩) L9 L9)).heap.size = wc.heap.size := by simp [World.setCell]
                  rw [e1]; exact HR.out.1
    case rest =>
    as_aux_lemma =>
      obtain ⟨vP, R0⟩ := hcut
      have S1 := Hid.mk' R0.out.1
      have QP := Hid.mk' R0.out.2.1
      clear d9 x9 y9 hL9 R0 A9 Z9 C9 NL9 hsz0 rn9 S0
      -- ████ B
      obtain ⟨a10, c10, b10, o10, hv10, A10, Z10, C10⟩ : ∃ (a : Option Addr) (c b o : Nat), e.v10 = .slice a e.B.length c ∧ Hid (0 < e.B.length → a = some ⟨b, o, none⟩ ∧ b < w.heap.size) ∧ Hid (a = none → e.B.length = 0 ∧ c = 0) ∧ Hid (∀ (j : Nat) x, e.B[j]? = some x → ElemTrips w b o j x) := by
        obtain ⟨b, o, ⟨a, c, h1, h2, h3⟩, h4⟩ := HH.out.B
        exact ⟨a, c, b, o, h1, h2, h3, h4⟩
      obtain ⟨L10, HL10⟩ : ∃ L, e.B.length = L := ⟨_, rfl⟩
      have d10 : wc.cell? ⟨N, 10, none⟩ = some (.slice a10 L10 c10) := by rw [S1.out.below.cell (p := ⟨N, 10, none⟩) hNl, HN.out 10 (by omega), ← HL10, ← hv10]; rfl
      have x10 : wc.cell? ⟨w.heap.size + 1, 10, none⟩ = some (.slice none 0 0) := S1.out.cell 10
      have y10 : wc.frozen? ⟨w.heap.size + 1, 10, none⟩ = false := S1.out.free 10
      have hsz1 : w.heap.size + 2 ≤ wc.heap.size := S1.out.size
      have hL10 : L10 ≤ 1048576 := by rw [← HL10]; exact HSm.out.B
      rw [HL10] at A10 Z10
      have NL10 := Hid.mk' HL10
      clear HL10 hv10
      have rn10 := fun (w : World) (a : Option Addr) (l c : Nat) => run_neq_slice_nil (P := Try.prog) w 65 114 a l c Try.underlying65
      go_upto_if 103 with fail
      go_cut [] from 99 to 148 (fun wd => ∃ vB, Hid (St w wd #[.string e.s0, .string e.s1, .string e.s2, .string e.s3, .string e.s4, .string e.s5, .string e.s6, .slice a7 L7 c7, .slice a8 L8 c8, vP, vB, .slice a11 L11 c11, .slice none 0 0, .slice none 0 0, .slice a14 L14 c14, .slice none 0 0] ∧ TripsA (w.heap.size + 2) wd vB e.B ∧ Above (w.heap.size + 2) wc wd))
      case first =>
        as_aux_lemma =>
          cases a10 with
          | none =>
            obtain ⟨h1, h2⟩ := Z10.out rfl
            subst h1
            subst h2
            go_wp2
            go_meet
            case rel => exact ⟨_, S1.out, TripsA.nil _ _ NL10.out, Above.refl _ _⟩
          | some ad =>
            obtain ⟨i0, z0, hi, hz, hz1, hz2⟩ := info_ex (e := 134) (size := 3) (bytes := 48) (by kernel_rfl)
            obtain ⟨mc, hmc, hmk⟩ := make_eq 75 134 i0 z0 3 48 L10 Try.underlying75 hi hz hz1 hz2 (by omega) hL10
            clear hi hz hz1 hz2
            have nz : w.heap.size + 1 ≠ wc.heap.size := by omega
            have nz' : w.heap.size + 1 < wc.heap.size := by omega
            have nN : N < wc.heap.size := by omega
            have nz2 : wc.heap.size ≠ w.heap.size + 1 := by omega
            have nN2 : wc.heap.size ≠ N := by omega
            go_wp2
            clear hmk
            go_loopw [5] (fun i wl => ∃ k : Nat, k ≤ L10 ∧ i = .int .i64 k ∧ Hid (Below wc.heap.size (wc.setCell ⟨w.heap.size + 1, 10, none⟩ (.slice (some ⟨wc.heap.size, 0, none⟩) L10 L10)) wl ∧ wc.heap.size < wl.heap.size ∧ Row wl wc.heap.size (L10 * 3) (tgt3 e.B) (k * 3))) (fun i _ => L10 - (intOf i).toNat)
            case atStart => exact ⟨0, Nat.zero_le _, rfl, (Below.refl _ _).alloc (by simp [World.setCell]) _, by simp [World.setCell], by rw [← hmc]; have := Row.made (wc.setCell ⟨w.heap.size + 1, 10, none⟩ (.slice (some ⟨wc.heap.size, 0, none⟩) L10 L10)) mc 134 (tgt3 e.B); simpa [World.setCell] using this⟩
            case round =>
              obtain ⟨k, hk, rfl, HR⟩ := hrel
              have SL : Hid (St w wr #[.string e.s0, .string e.s1, .string e.s2, .string e.s3, .string e.s4, .string e.s5, .string e.s6, .slice a7 L7 c7, .slice a8 L8 c8, vP, (.slice (some ⟨wc.heap.size, 0, none⟩) L10 L10), .slice a11 L11 c11, .slice none 0 0, .slice none 0 0, .slice a14 L14 c14, .slice none 0 0]) := by
                have s1 := S1.out.set 10 (.slice (some ⟨wc.heap.size, 0, none⟩) L10 L10)
                have hb := HR.out.1
                have e1 : (wc.setCell ⟨w.heap.size + 1, 10, none⟩ (.slice (some ⟨wc.heap.size, 0, none⟩) L10 L10)).heap.size = wc.heap.size := by simp [World.setCell]
                exact s1.next (by rw [e1]; exact hb)
              have xl : wr.cell? ⟨w.heap.size + 1, 10, none⟩ = some (.slice (some ⟨wc.heap.size, 0, none⟩) L10 L10) := SL.out.cell 10
              have dl : wr.cell? ⟨N, 10, none⟩ = some (.slice (some ad) L10 c10) := by rw [SL.out.below.cell (p := ⟨N, 10, none⟩) hNl, ← S1.out.below.cell (p := ⟨N, 10, none⟩) hNl]; exact d10
              have hwz : wc.heap.size < wr.heap.size := HR.out.2.1
              by_cases hlt : k < L10
              · obtain ⟨had, hb⟩ := A10.out (by omega)
                cases had
                have nb2 : wc.heap.size ≠ b10 := by omega
                obtain ⟨x, hx⟩ : ∃ x, e.B[k]? = some x := ⟨_, List.getElem?_eq_getElem (by rw [NL10.out]; exact hlt)⟩
                have g := (C10.out k x hx).below SL.out.below hb
                have HX := Hid.mk' hx
                obtain ⟨z0, q0, f0⟩ := HR.out.2.2.at (k * 3) (by omega)
                obtain ⟨z1, q1, f1⟩ := HR.out.2.2.at (k * 3 + 1) (by omega)
                obtain ⟨z2, q2, f2⟩ := HR.out.2.2.at (k * 3 + 2) (by omega)
                clear hx
                have hlt' : (k : Int) < (L10 : Int) := by omega
                have hk0 : (0 : Int) ≤ (k : Int) := by omega
                obtain ⟨g1, g2, g3⟩ := g
                go_wp2
                go_region_held3 (fun w' => w'.cell? ⟨w.heap.size + 1, 10, none⟩ = some (.slice (some ⟨wc.heap.size, 0, none⟩) L10 L10) ∧ w'.cell? ⟨N, 10, none⟩ = some (.slice (some ⟨b10, o10, none⟩) L10 c10) ∧ w'.cell? ⟨b10, o10 + k * 3, none⟩ = some (.string x.1) ∧ w'.cell? ⟨b10, o10 + k * 3 + 1, none⟩ = some (.string x.2.1) ∧ w'.cell? ⟨b10, o10 + k * 3 + 2, none⟩ = some (.string x.2.2)) (go_keep) (fail)
                go_wp2
                go_roundw
                case rel => (repeat apply Exists.intro); exact ⟨⟨k + 1, by omega, by go_num, below_drewN (Below.setCell (Below.setCell (Below.setCell HR.out.1 (Nat.le_refl _) _) (Nat.le_refl _) _) (Nat.le_refl _) _) 1, by simpa [World.setCell] using hwz, by rw [show (k + 1) * 3 = k * 3 + 3 by omega]; exact (((HR.out.2.2.step (by omega) (tgt3_0 HX.out)).step (by omega) (tgt3_1 HX.out)).step (by omega) (tgt3_2 HX.out)).drew⟩, rfl⟩
                case measure => go_light; simp [intOf]; omega
              · have hkL : k = L10 := by omega
                go_wp2
                go_meet
                case rel =>
                  have hrow := HR.out.2.2
                  rw [hkL, ← NL10.out] at hrow
                  refine ⟨_, SL.out, ?_, (Above.set wc (a := ⟨w.heap.size + 1, 10, none⟩) (by show w.heap.size + 1 < w.heap.size + 2; omega) (.slice (some ⟨wc.heap.size, 0, none⟩) L10 L10)).trans (Above.below ?_)⟩
                  · rw [← NL10.out]; exact TripsA.row hrow hwz (by omega)
                  · have e1 : (wc.setCell ⟨w.heap.size + 1, 10, none⟩ (.slice (some ⟨wc.heap.size, 0, none⟩) L10 L10)).heap.size = wc.heap.size := by simp [World.setCell]
                    rw [e1]; exact HR.out.1
      case rest =>
      as_aux_lemma =>
        obtain ⟨vB, R1⟩ := hcut
        have S2 := Hid.mk' R1.out.1
        replace QP := Hid.mk' (QP.out.above R1.out.2.2)
        have QB := Hid.mk' R1.out.2.1
        clear d10 x10 y10 hL10 R1 A10 Z10 C10 NL10 hsz1 rn10 S1
        -- ████ Tg
        obtain ⟨a12, c12, b12, o12, hv12, A12, Z12, C12⟩ : ∃ (a : Option Addr) (c b o : Nat), e.v12 = .slice a e.Tg.length c ∧ Hid (0 < e.Tg.length → a = some ⟨b, o, none⟩ ∧ b < w.heap.size) ∧ Hid (a = none → e.Tg.length = 0 ∧ c = 0) ∧ Hid (∀ (j : Nat) x, e.Tg[j]? = some x → ElemPairs w b o j x) := by
          obtain ⟨b, o, ⟨a, c, h1, h2, h3⟩, h4⟩ := HH.out.Tg
          exact ⟨a, c, b, o, h1, h2, h3, h4⟩
        obtain ⟨L12, HL12⟩ : ∃ L, e.Tg.length = L := ⟨_, rfl⟩
        have d12 : wc.cell? ⟨N, 12, none⟩ = some (.slice a12 L12 c12) := by rw [S2.out.below.cell (p := ⟨N, 12, none⟩) hNl, HN.out 12 (by omega), ← HL12, ← hv12]; rfl
        have x12 : wc.cell? ⟨w.heap.size + 1, 12, none⟩ = some (.slice none 0 0) := S2.out.cell 12
        have y12 : wc.frozen? ⟨w.heap.size + 1, 12, none⟩ = false := S2.out.free 12
        have hsz2 : w.heap.size + 2 ≤ wc.heap.size := S2.out.size
        have hL12 : L12 ≤ 1048576 := by rw [← HL12]; exact HSm.out.Tg
        rw [HL12] at A12 Z12
        have NL12 := Hid.mk' HL12
        clear HL12 hv12
        have rn12 := fun (w : World) (a : Option Addr) (l c : Nat) => run_neq_slice_nil (P := Try.prog) w 66 118 a l c Try.underlying66
        go_upto_if 153 with fail
        go_cut [] from 149 to 190 (fun wd => ∃ vT, Hid (St w wd #[.string e.s0, .string e.s1, .string e.s2, .string e.s3, .string e.s4, .string e.s5, .string e.s6, .slice a7 L7 c7, .slice a8 L8 c8, vP, vB, .slice a11 L11 c11, vT, .slice none 0 0, .slice a14 L14 c14, .slice none 0 0] ∧ PairsA (w.heap.size + 2) wd vT e.Tg ∧ Above (w.heap.size + 2) wc wd))
        case first =>
          as_aux_lemma =>
            cases a12 with
            | none =>
              obtain ⟨h1, h2⟩ := Z12.out rfl
              subst h1
              subst h2
              go_wp2
              go_meet
              case rel => exact ⟨_, S2.out, PairsA.nil _ _ NL12.out, Above.refl _ _⟩
            | some ad =>
              obtain ⟨i0, z0, hi, hz, hz1, hz2⟩ := info_ex (e := 135) (size := 2) (bytes := 32) (by kernel_rfl)
              obtain ⟨mc, hmc, hmk⟩ := make_eq 76 135 i0 z0 2 32 L12 Try.underlying76 hi hz hz1 hz2 (by omega) hL12
              clear hi hz hz1 hz2
              have nz : w.heap.size + 1 ≠ wc.heap.size := by omega
              have nz' : w.heap.size + 1 < wc.heap.size := by omega
              have nN : N < wc.heap.size := by omega
              have nz2 : wc.heap.size ≠ w.heap.size + 1 := by omega
              have nN2 : wc.heap.size ≠ N := by omega
              go_wp2
              clear hmk
              go_loopw [6] (fun i wl => ∃ k : Nat, k ≤ L12 ∧ i = .int .i64 k ∧ Hid (Below wc.heap.size (wc.setCell ⟨w.heap.size + 1, 12, none⟩ (.slice (some ⟨wc.heap.size, 0, none⟩) L12 L12)) wl ∧ wc.heap.size < wl.heap.size ∧ Row wl wc.heap.size (L12 * 2) (tgt2 e.Tg) (k * 2))) (fun i _ => L12 - (intOf i).toNat)
              case atStart => exact ⟨0, Nat.zero_le _, rfl, (Below.refl _ _).alloc (by simp [World.setCell]) _, by simp [World.setCell], by rw [← hmc]; have := Row.made (wc.setCell ⟨w.heap.size + 1, 12, none⟩ (.slice (some ⟨wc.heap.size, 0, none⟩) L12 L12)) mc 135 (tgt2 e.Tg); simpa [World.setCell] using this⟩
              case round =>
                obtain ⟨k, hk, rfl, HR⟩ := hrel
                have SL : Hid (St w wr #[.string e.s0, .string e.s1, .string e.s2, .string e.s3, .string e.s4, .string e.s5, .string e.s6, .slice a7 L7 c7, .slice a8 L8 c8, vP, vB, .slice a11 L11 c11, (.slice (some ⟨wc.heap.size, 0, none⟩) L12 L12), .slice none 0 0, .slice a14 L14 c14, .slice none 0 0]) := by
                  have s1 := S2.out.set 12 (.slice (some ⟨wc.heap.size, 0, none⟩) L12 L12)
                  have hb := HR.out.1
                  have e1 : (wc.setCell ⟨w.heap.size + 1, 12, none⟩ (.slice (some ⟨wc.heap.size, 0, none⟩) L12 L12)).heap.size = wc.heap.size := by simp [World.setCell]
                  exact s1.next (by rw [e1]; exact hb)
                have xl : wr.cell? ⟨w.heap.size + 1, 12, none⟩ = some (.slice (some ⟨wc.heap.size, 0, none⟩) L12 L12) := SL.out.cell 12
                have dl : wr.cell? ⟨N, 12, none⟩ = some (.slice (some ad) L12 c12) := by rw [SL.out.below.cell (p := ⟨N, 12, none⟩) hNl, ← S2.out.below.cell (p := ⟨N, 12, none⟩) hNl]; exact d12
                have hwz : wc.heap.size < wr.heap.size := HR.out.2.1
                by_cases hlt : k < L12
                · obtain ⟨had, hb⟩ := A12.out (by omega)
                  cases had
                  have nb2 : wc.heap.size ≠ b12 := by omega
                  obtain ⟨x, hx⟩ : ∃ x, e.Tg[k]? = some x := ⟨_, List.getElem?_eq_getElem (by rw [NL12.out]; exact hlt)⟩
                  have g := (C12.out k x hx).below SL.out.below hb
                  have HX := Hid.mk' hx
                  obtain ⟨z0, q0, f0⟩ := HR.out.2.2.at (k * 2) (by omega)
                  obtain ⟨z1, q1, f1⟩ := HR.out.2.2.at (k * 2 + 1) (by omega)
                  clear hx
                  have hlt' : (k : Int) < (L12 : Int) := by omega
                  have hk0 : (0 : Int) ≤ (k : Int) := by omega
                  obtain ⟨g1, g2⟩ := g
                  go_wp2
                  go_region_held3 (fun w' => w'.cell? ⟨w.heap.size + 1, 12, none⟩ = some (.slice (some ⟨wc.heap.size, 0, none⟩) L12 L12) ∧ w'.cell? ⟨N, 12, none⟩ = some (.slice (some ⟨b12, o12, none⟩) L12 c12) ∧ w'.cell? ⟨b12, o12 + k * 2, none⟩ = some (.string x.1) ∧ w'.cell? ⟨b12, o12 + k * 2 + 1, none⟩ = some (.string x.2)) (go_keep) (fail)
                  go_wp2
                  go_roundw
                  case rel => (repeat apply Exists.intro); exact ⟨⟨k + 1, by omega, by go_num, below_drewN (Below.setCell (Below.setCell HR.out.1 (Nat.le_refl _) _) (Nat.le_refl _) _) 1, by simpa [World.setCell] using hwz, by rw [show (k + 1) * 2 = k * 2 + 2 by omega]; exact ((HR.out.2.2.step (by omega) (tgt2_0 HX.out)).step (by omega) (tgt2_1 HX.out)).drew⟩, rfl⟩
                  case measure => go_light; simp [intOf]; omega
                · have hkL : k = L12 := by omega
                  go_wp2
                  go_meet
                  case rel =>
                    have hrow := HR.out.2.2
                    rw [hkL, ← NL12.out] at hrow
                    refine ⟨_, SL.out, ?_, (Above.set wc (a := ⟨w.heap.size + 1, 12, none⟩) (by show w.heap.size + 1 < w.heap.size + 2; omega) (.slice (some ⟨wc.heap.size, 0, none⟩) L12 L12)).trans (Above.below ?_)⟩
                    · rw [← NL12.out]; exact PairsA.row hrow hwz (by omega)
                    · have e1 : (wc.setCell ⟨w.heap.size + 1, 12, none⟩ (.slice (some ⟨wc.heap.size, 0, none⟩) L12 L12)).heap.size = wc.heap.size := by simp [World.setCell]
                      rw [e1]; exact HR.out.1
        case rest =>
        as_aux_lemma =>
          obtain ⟨vT, R2⟩ := hcut
          have S3 := Hid.mk' R2.out.1
          replace QP := Hid.mk' (QP.out.above R2.out.2.2)
          replace QB := Hid.mk' (QB.out.above R2.out.2.2)
          have QTg := Hid.mk' R2.out.2.1
          clear d12 x12 y12 hL12 R2 A12 Z12 C12 NL12 hsz2 rn12 S2
          -- ████ I
          obtain ⟨a13, c13, b13, o13, hv13, A13, Z13, C13⟩ : ∃ (a : Option Addr) (c b o : Nat), e.v13 = .slice a e.I.length c ∧ Hid (0 < e.I.length → a = some ⟨b, o, none⟩ ∧ b < w.heap.size) ∧ Hid (a = none → e.I.length = 0 ∧ c = 0) ∧ Hid (∀ (j : Nat) x, e.I[j]? = some x → ElemInsts w b o j x) := by
            obtain ⟨b, o, ⟨a, c, h1, h2, h3⟩, h4⟩ := HH.out.I
            exact ⟨a, c, b, o, h1, h2, h3, h4⟩
          obtain ⟨L13, HL13⟩ : ∃ L, e.I.length = L := ⟨_, rfl⟩
          have d13 : wc.cell? ⟨N, 13, none⟩ = some (.slice a13 L13 c13) := by rw [S3.out.below.cell (p := ⟨N, 13, none⟩) hNl, HN.out 13 (by omega), ← HL13, ← hv13]; rfl
          have x13 : wc.cell? ⟨w.heap.size + 1, 13, none⟩ = some (.slice none 0 0) := S3.out.cell 13
          have y13 : wc.frozen? ⟨w.heap.size + 1, 13, none⟩ = false := S3.out.free 13
          have hsz3 : w.heap.size + 2 ≤ wc.heap.size := S3.out.size
          have hL13 : L13 ≤ 1048576 := by rw [← HL13]; exact HSm.out.I
          rw [HL13] at A13 Z13
          have NL13 := Hid.mk' HL13
          clear HL13 hv13
          have rn13 := fun (w : World) (a : Option Addr) (l c : Nat) => run_neq_slice_nil (P := Try.prog) w 67 129 a l c Try.underlying67
          go_upto_if 195 with fail
          go_cut [] from 191 to 253 (fun wd => ∃ vI, Hid (St w wd #[.string e.s0, .string e.s1, .string e.s2, .string e.s3, .string e.s4, .string e.s5, .string e.s6, .slice a7 L7 c7, .slice a8 L8 c8, vP, vB, .slice a11 L11 c11, vT, vI, .slice a14 L14 c14, .slice none 0 0] ∧ (∃ a n c, vI = Value.slice a n c) ∧ Above (w.heap.size + 2) wc wd))
          case first =>
            as_aux_lemma =>
              cases a13 with
              | none =>
                obtain ⟨h1, h2⟩ := Z13.out rfl
                subst h1
                subst h2
                go_wp2
                go_meet
                case rel => exact ⟨_, S3.out, ⟨_, _, _, rfl⟩, Above.refl _ _⟩
              | some ad =>
                obtain ⟨i0, z0, hi, hz, hz1, hz2⟩ := info_ex (e := 141) (size := 2) (bytes := 24) (by kernel_rfl)
                obtain ⟨mc, hmc, hmk⟩ := make_eq 77 141 i0 z0 2 24 L13 Try.underlying77 hi hz hz1 hz2 (by omega) hL13
                clear hi hz hz1 hz2
                have nz : w.heap.size + 1 ≠ wc.heap.size := by omega
                have nz' : w.heap.size + 1 < wc.heap.size := by omega
                have nN : N < wc.heap.size := by omega
                have nz2 : wc.heap.size ≠ w.heap.size + 1 := by omega
                have nN2 : wc.heap.size ≠ N := by omega
                go_wp2
                clear hmk
                go_loopw [7] (fun i wl => ∃ k : Nat, k ≤ L13 ∧ i = .int .i64 k ∧ Hid (Below wc.heap.size (wc.setCell ⟨w.heap.size + 1, 13, none⟩ (.slice (some ⟨wc.heap.size, 0, none⟩) L13 L13)) wl ∧ wc.heap.size < wl.heap.size ∧ Row wl wc.heap.size (L13 * 2) (fun _ => none) 0)) (fun i _ => L13 - (intOf i).toNat)
                case atStart => exact ⟨0, Nat.zero_le _, rfl, (Below.refl _ _).alloc (by simp [World.setCell]) _, by simp [World.setCell], by rw [← hmc]; have := Row.made (wc.setCell ⟨w.heap.size + 1, 13, none⟩ (.slice (some ⟨wc.heap.size, 0, none⟩) L13 L13)) mc 141 (fun _ => none); simpa [World.setCell] using this⟩
                case round =>
                  obtain ⟨k, hk, rfl, HR⟩ := hrel
                  have SL : Hid (St w wr #[.string e.s0, .string e.s1, .string e.s2, .string e.s3, .string e.s4, .string e.s5, .string e.s6, .slice a7 L7 c7, .slice a8 L8 c8, vP, vB, .slice a11 L11 c11, vT, (.slice (some ⟨wc.heap.size, 0, none⟩) L13 L13), .slice a14 L14 c14, .slice none 0 0]) := by
                    have s1 := S3.out.set 13 (.slice (some ⟨wc.heap.size, 0, none⟩) L13 L13)
                    have hb := HR.out.1
                    have e1 : (wc.setCell ⟨w.heap.size + 1, 13, none⟩ (.slice (some ⟨wc.heap.size, 0, none⟩) L13 L13)).heap.size = wc.heap.size := by simp [World.setCell]
                    exact s1.next (by rw [e1]; exact hb)
                  have xl : wr.cell? ⟨w.heap.size + 1, 13, none⟩ = some (.slice (some ⟨wc.heap.size, 0, none⟩) L13 L13) := SL.out.cell 13
                  have dl : wr.cell? ⟨N, 13, none⟩ = some (.slice (some ad) L13 c13) := by rw [SL.out.below.cell (p := ⟨N, 13, none⟩) hNl, ← S3.out.below.cell (p := ⟨N, 13, none⟩) hNl]; exact d13
                  have hwz : wc.heap.size < wr.heap.size := HR.out.2.1
                  by_cases hlt : k < L13
                  · obtain ⟨had, hb⟩ := A13.out (by omega)
                    cases had
                    have nb2 : wc.heap.size ≠ b13 := by omega
                    obtain ⟨x, hx⟩ : ∃ x, e.I[k]? = some x := ⟨_, List.getElem?_eq_getElem (by rw [NL13.out]; exact hlt)⟩
                    have g := (C13.out k x hx).below SL.out.below hb
                    have HX := Hid.mk' hx
                    obtain ⟨z0, q0, f0⟩ := HR.out.2.2.at (k * 2) (by omega)
                    obtain ⟨z1, q1, f1⟩ := HR.out.2.2.at (k * 2 + 1) (by omega)
                    clear hx
                    have hlt' : (k : Int) < (L13 : Int) := by omega
                    have hk0 : (0 : Int) ≤ (k : Int) := by omega
                    obtain ⟨g1, g2, g3⟩ := g
                    by_cases hs : x.some' = true
                    · obtain ⟨hl, e0, e1, e2, e3⟩ := g3 hs
                      have g2' : wr.cell? ⟨b13, o13 + k * 2 + 1, none⟩ = some (.pointer (some ⟨x.rb, x.ro, none⟩)) := by rw [g2]; simp [Inst.ptr, hs]
                      clear g2 g3 hs
                      have nb3 : wc.heap.size ≠ x.rb := by omega
                      have nb4 : wr.heap.size ≠ wc.heap.size := by omega
                      have nb5 : wc.heap.size ≠ wr.heap.size := by omega
                      have nb6 : wr.heap.size ≠ w.heap.size + 1 := by omega
                      have nb7 : wr.heap.size ≠ N := by omega
                      have nb8 : wr.heap.size ≠ b13 := by omega
                      have nb9 : b13 < wr.heap.size := by omega
                      have nb10 : N < wr.heap.size := by omega
                      have nb11 : w.heap.size + 1 < wr.heap.size := by omega
                      have nb12 : x.rb < wr.heap.size := by omega
                      have nb13 : wr.heap.size ≠ x.rb := by omega
                      go_wp2
                      go_region_held3 (fun w' => w'.cell? ⟨x.rb, x.ro, none⟩ = some (.string x.mn) ∧ w'.cell? ⟨x.rb, x.ro + 1, none⟩ = some (.bool x.mnx) ∧ w'.cell? ⟨x.rb, x.ro + 2, none⟩ = some (.string x.mx) ∧ w'.cell? ⟨x.rb, x.ro + 3, none⟩ = some (.bool x.mxx)) (first | go_keep | simp [*, World.cell?_alloc_past]) (fail)
                      go_wp2
                      go_region_held3 (fun w' => w'.cell? ⟨w.heap.size + 1, 13, none⟩ = some (.slice (some ⟨wc.heap.size, 0, none⟩) L13 L13) ∧ w'.cell? ⟨N, 13, none⟩ = some (.slice (some ⟨b13, o13, none⟩) L13 c13) ∧ w'.cell? ⟨b13, o13 + k * 2, none⟩ = some (.string x.id)) (first | go_keep | simp [*, World.cell?_alloc_past, World.cell?_setCell_far]) (fail)
                      go_wp2
                      go_roundw
                      case rel => (repeat apply Exists.intro); exact ⟨⟨k + 1, by omega, by go_num, below_drewN ((Below.setCell (Below.setCell HR.out.1 (Nat.le_refl _) _) (Nat.le_refl _) _).alloc (by simp [World.setCell]; omega) _) 2, by simp [World.setCell]; omega, ((HR.out.2.2.over (Nat.zero_le _) _).over (Nat.zero_le _) _).newer _ (by simpa [World.setCell] using hwz)⟩, rfl⟩
                      case measure => go_light; simp [intOf]; omega
                    · have g2' : wr.cell? ⟨b13, o13 + k * 2 + 1, none⟩ = some (.pointer none) := by rw [g2]; simp [Inst.ptr, hs]
                      clear g2 g3 hs
                      go_wp2
                      go_region_held3 (fun w' => w'.cell? ⟨w.heap.size + 1, 13, none⟩ = some (.slice (some ⟨wc.heap.size, 0, none⟩) L13 L13) ∧ w'.cell? ⟨N, 13, none⟩ = some (.slice (some ⟨b13, o13, none⟩) L13 c13) ∧ w'.cell? ⟨b13, o13 + k * 2, none⟩ = some (.string x.id)) (go_keep) (fail)
                      go_wp2
                      go_roundw
                      case rel => (repeat apply Exists.intro); exact ⟨⟨k + 1, by omega, by go_num, below_drewN (Below.setCell (Below.setCell HR.out.1 (Nat.le_refl _) _) (Nat.le_refl _) _) 1, by simpa [World.setCell] using hwz, (HR.out.2.2.over (Nat.zero_le _) _).over (Nat.zero_le _) _⟩, rfl⟩
                      case measure => go_light; simp [intOf]; omega
                  · have hkL : k = L13 := by omega
                    go_wp2
                    go_meet
                    case rel =>
                      refine ⟨_, SL.out, ⟨_, _, _, rfl⟩, (Above.set wc (a := ⟨w.heap.size + 1, 13, none⟩) (by show w.heap.size + 1 < w.heap.size + 2; omega) (.slice (some ⟨wc.heap.size, 0, none⟩) L13 L13)).trans (Above.below ?_)⟩
                      have e1 : (wc.setCell ⟨w.heap.size + 1, 13, none⟩ (.slice (some ⟨wc.heap.size, 0, none⟩) L13 L13)).heap.size = wc.heap.size := by simp [World.setCell]
                      rw [e1]; exact HR.out.1
          case rest =>
          as_aux_lemma =>
            obtain ⟨vI, R3⟩ := hcut
            have S4 := Hid.mk' R3.out.1
            replace QP := Hid.mk' (QP.out.above R3.out.2.2)
            replace QB := Hid.mk' (QB.out.above R3.out.2.2)
            replace QTg := Hid.mk' (QTg.out.above R3.out.2.2)
            have QI := Hid.mk' R3.out.2.1
            clear d13 x13 y13 hL13 R3 A13 Z13 C13 NL13 hsz3 rn13 S3
            -- ████ F
            obtain ⟨a15, c15, b15, o15, hv15, A15, Z15, C15⟩ : ∃ (a : Option Addr) (c b o : Nat), e.v15 = .slice a e.F.length c ∧ Hid (0 < e.F.length → a = some ⟨b, o, none⟩ ∧ b < w.heap.size) ∧ Hid (a = none → e.F.length = 0 ∧ c = 0) ∧ Hid (∀ (j : Nat) x, e.F[j]? = some x → ElemFils w b o j x) := by
              obtain ⟨b, o, ⟨a, c, h1, h2, h3⟩, h4⟩ := HH.out.F
              exact ⟨a, c, b, o, h1, h2, h3, fun j x hx => ⟨(h4 j x hx).1, (h4 j x hx).2.1, (h4 j x hx).2.2.1, (h4 j x hx).2.2.2.1, (h4 j x hx).2.2.2.2.1⟩⟩
            obtain ⟨L15, HL15⟩ : ∃ L, e.F.length = L := ⟨_, rfl⟩
            have d15 : wc.cell? ⟨N, 15, none⟩ = some (.slice a15 L15 c15) := by rw [S4.out.below.cell (p := ⟨N, 15, none⟩) hNl, HN.out 15 (by omega), ← HL15, ← hv15]; rfl
            have x15 : wc.cell? ⟨w.heap.size + 1, 15, none⟩ = some (.slice none 0 0) := S4.out.cell 15
            have y15 : wc.frozen? ⟨w.heap.size + 1, 15, none⟩ = false := S4.out.free 15
            have hsz4 : w.heap.size + 2 ≤ wc.heap.size := S4.out.size
            have hL15 : L15 ≤ 1048576 := by rw [← HL15]; exact HSm.out.F.1
            rw [HL15] at A15 Z15
            have NL15 := Hid.mk' HL15
            clear HL15 hv15
            have rn15 := fun (w : World) (a : Option Addr) (l c : Nat) => run_neq_slice_nil (P := Try.prog) w 68 120 a l c Try.underlying68
            go_upto_if 258 with fail
            go_cut [] from 254 to 296 (fun wd => ∃ vF, Hid (St w wd #[.string e.s0, .string e.s1, .string e.s2, .string e.s3, .string e.s4, .string e.s5, .string e.s6, .slice a7 L7 c7, .slice a8 L8 c8, vP, vB, .slice a11 L11 c11, vT, vI, .slice a14 L14 c14, vF] ∧ FilsA (w.heap.size + 2) wd vF e.F ∧ Above (w.heap.size + 2) wc wd))
            case first =>
              as_aux_lemma =>
                cases a15 with
                | none =>
                  obtain ⟨h1, h2⟩ := Z15.out rfl
                  subst h1
                  subst h2
                  go_wp2
                  go_meet
                  case rel => exact ⟨_, S4.out, FilsA.nil _ _ NL15.out, Above.refl _ _⟩
                | some ad =>
                  obtain ⟨i0, z0, hi, hz, hz1, hz2⟩ := info_ex (e := 142) (size := 5) (bytes := 88) (by kernel_rfl)
                  obtain ⟨mc, hmc, hmk⟩ := make_eq 78 142 i0 z0 5 88 L15 Try.underlying78 hi hz hz1 hz2 (by omega) hL15
                  clear hi hz hz1 hz2
                  have nz : w.heap.size + 1 ≠ wc.heap.size := by omega
                  have nz' : w.heap.size + 1 < wc.heap.size := by omega
                  have nN : N < wc.heap.size := by omega
                  have nz2 : wc.heap.size ≠ w.heap.size + 1 := by omega
                  have nN2 : wc.heap.size ≠ N := by omega
                  go_wp2
                  clear hmk
                  go_loopw [10] (fun i wl => ∃ k : Nat, k ≤ L15 ∧ i = .int .i64 k ∧ Hid (Below wc.heap.size (wc.setCell ⟨w.heap.size + 1, 15, none⟩ (.slice (some ⟨wc.heap.size, 0, none⟩) L15 L15)) wl ∧ wc.heap.size < wl.heap.size ∧ Row wl wc.heap.size (L15 * 5) (tgt5 e.F) (k * 5))) (fun i _ => L15 - (intOf i).toNat)
                  case atStart => exact ⟨0, Nat.zero_le _, rfl, (Below.refl _ _).alloc (by simp [World.setCell]) _, by simp [World.setCell], by rw [← hmc]; have := Row.made (wc.setCell ⟨w.heap.size + 1, 15, none⟩ (.slice (some ⟨wc.heap.size, 0, none⟩) L15 L15)) mc 142 (tgt5 e.F); simpa [World.setCell] using this⟩
                  case round =>
                    obtain ⟨k, hk, rfl, HR⟩ := hrel
                    have SL : Hid (St w wr #[.string e.s0, .string e.s1, .string e.s2, .string e.s3, .string e.s4, .string e.s5, .string e.s6, .slice a7 L7 c7, .slice a8 L8 c8, vP, vB, .slice a11 L11 c11, vT, vI, .slice a14 L14 c14, (.slice (some ⟨wc.heap.size, 0, none⟩) L15 L15)]) := by
                      have s1 := S4.out.set 15 (.slice (some ⟨wc.heap.size, 0, none⟩) L15 L15)
                      have hb := HR.out.1
                      have e1 : (wc.setCell ⟨w.heap.size + 1, 15, none⟩ (.slice (some ⟨wc.heap.size, 0, none⟩) L15 L15)).heap.size = wc.heap.size := by simp [World.setCell]
                      exact s1.next (by rw [e1]; exact hb)
                    have xl : wr.cell? ⟨w.heap.size + 1, 15, none⟩ = some (.slice (some ⟨wc.heap.size, 0, none⟩) L15 L15) := SL.out.cell 15
                    have dl : wr.cell? ⟨N, 15, none⟩ = some (.slice (some ad) L15 c15) := by rw [SL.out.below.cell (p := ⟨N, 15, none⟩) hNl, ← S4.out.below.cell (p := ⟨N, 15, none⟩) hNl]; exact d15
                    have hwz : wc.heap.size < wr.heap.size := HR.out.2.1
                    by_cases hlt : k < L15
                    · obtain ⟨had, hb⟩ := A15.out (by omega)
                      cases had
                      have nb2 : wc.heap.size ≠ b15 := by omega
                      obtain ⟨x, hx⟩ : ∃ x, e.F[k]? = some x := ⟨_, List.getElem?_eq_getElem (by rw [NL15.out]; exact hlt)⟩
                      have g := (C15.out k x hx).below SL.out.below hb
                      have HX := Hid.mk' hx
                      obtain ⟨z0, q0, f0⟩ := HR.out.2.2.at (k * 5) (by omega)
                      obtain ⟨z1, q1, f1⟩ := HR.out.2.2.at (k * 5 + 1) (by omega)
                      obtain ⟨z2, q2, f2⟩ := HR.out.2.2.at (k * 5 + 2) (by omega)
                      obtain ⟨z3, q3, f3⟩ := HR.out.2.2.at (k * 5 + 3) (by omega)
                      obtain ⟨z4, q4, f4⟩ := HR.out.2.2.at (k * 5 + 4) (by omega)
                      clear hx
                      have hlt' : (k : Int) < (L15 : Int) := by omega
                      have hk0 : (0 : Int) ≤ (k : Int) := by omega
                      obtain ⟨g0, g1, g2, g3, g4⟩ := g
                      obtain ⟨aA, cA, hvA⟩ : ∃ a c, x.av = .slice a x.assets.length c := by obtain ⟨b, o, ⟨a, c, hv, _⟩, _⟩ := ((HH.out.F.elem HX.out).2); exact ⟨a, c, hv⟩
                      rw [hvA] at g3
                      generalize x.assets.length = LA at *
                      have nb4 : wr.heap.size ≠ wc.heap.size := by omega
                      have nb5 : wc.heap.size ≠ wr.heap.size := by omega
                      have nb5' : wc.heap.size < wr.heap.size := by omega
                      have nb11 : w.heap.size + 1 < wr.heap.size := by omega
                      have HVA := Hid.mk' hvA
                      clear hvA
                      go_wp2
                      skip
                      go_roundw
                      case rel => exact ⟨k + 1, by omega, by go_num, (Below.setCell (Below.setCell (Below.setCell (Below.setCell (Below.setCell HR.out.1 (Nat.le_refl _) _) (Nat.le_refl _) _) (Nat.le_refl _) _) (Nat.le_refl _) _) (Nat.le_refl _) _).alloc (by simp [World.setCell]; omega) _, by simp [World.setCell]; omega, by rw [show (k + 1) * 5 = k * 5 + 5 by omega]; exact (((((HR.out.2.2.step (by omega) (tgt5_0 HX.out)).step (by omega) (tgt5_1 HX.out)).step (by omega) (tgt5_2 HX.out)).step (by omega) ((tgt5_3 HX.out).trans (congrArg some HVA.out))).step (by omega) (tgt5_4 HX.out)).newer _ (by simpa [World.setCell] using hwz)⟩
                      case measure => go_light; simp [intOf]; omega
                    · have hkL : k = L15 := by omega
                      go_wp2
                      go_meet
                      case rel =>
                        have hrow := HR.out.2.2
                        rw [hkL, ← NL15.out] at hrow
                        refine ⟨_, SL.out, ?_, (Above.set wc (a := ⟨w.heap.size + 1, 15, none⟩) (by show w.heap.size + 1 < w.heap.size + 2; omega) (.slice (some ⟨wc.heap.size, 0, none⟩) L15 L15)).trans (Above.below ?_)⟩
                        · rw [← NL15.out]; exact FilsA.row hrow hwz (by omega)
                        · have e1 : (wc.setCell ⟨w.heap.size + 1, 15, none⟩ (.slice (some ⟨wc.heap.size, 0, none⟩) L15 L15)).heap.size = wc.heap.size := by simp [World.setCell]
                          rw [e1]; exact HR.out.1
            case rest =>
            as_aux_lemma =>
              obtain ⟨vF, R4⟩ := hcut
              have S5 := Hid.mk' R4.out.1
              replace QP := Hid.mk' (QP.out.above R4.out.2.2)
              replace QB := Hid.mk' (QB.out.above R4.out.2.2)
              replace QTg := Hid.mk' (QTg.out.above R4.out.2.2)
              have QF := Hid.mk' R4.out.2.1
              clear d15 x15 y15 hL15 R4 A15 Z15 C15 NL15 hsz4 rn15 S4
              -- ████ the end
              as_aux_lemma =>
                obtain ⟨aI, nI, cI, hI⟩ := QI.out
                obtain ⟨aP, cP, hP⟩ : ∃ a c, vP = .slice a e.P.length c := by obtain ⟨b, o, ⟨a, c, hv, _⟩, _⟩ := QP.out; exact ⟨a, c, hv⟩
                obtain ⟨aB, cB, hB⟩ : ∃ a c, vB = .slice a e.B.length c := by obtain ⟨b, o, ⟨a, c, hv, _⟩, _⟩ := QB.out; exact ⟨a, c, hv⟩
                obtain ⟨aT, cT, hT⟩ : ∃ a c, vT = .slice a e.Tg.length c := by obtain ⟨b, o, ⟨a, c, hv, _⟩, _⟩ := QTg.out; exact ⟨a, c, hv⟩
                obtain ⟨aF, cF, hF⟩ : ∃ a c, vF = .slice a e.F.length c := by obtain ⟨b, o, ⟨a, c, hv, _⟩, _⟩ := QF.out; exact ⟨a, c, hv⟩
                subst hP
                subst hB
                subst hT
                subst hF
                subst hI
                skip
                skip
                skip
                skip
                obtain ⟨arr, harr⟩ : ∃ arr : Array Value, arr = #[.string e.s0, .string e.s1, .string e.s2, .string e.s3, .string e.s4, .string e.s5, .string e.s6, .slice a7 L7 c7, .slice a8 L8 c8, .slice aP e.P.length cP, .slice aB e.B.length cB, .slice a11 L11 c11, .slice aT e.Tg.length cT, .slice aI nI cI, .slice a14 L14 c14, .slice aF e.F.length cF] := ⟨_, rfl⟩
                have hr : wc.rangeAt (w.heap.size + 1) 0 arr.toList := by
                  intro j v hv
                  rw [Nat.zero_add, S5.out.cell j, ← harr, ← Array.getElem?_toList]
                  exact hv
                have hsz : arr.size = 16 := by rw [harr]; rfl
                have ht : wc.there w.heap.size 0 arr.size := by
                  intro j hj
                  rw [hsz] at hj
                  rw [Nat.zero_add, S5.out.rcell j, S5.out.rfree j]
                  have hz : zero80.size = 16 := rfl
                  exact ⟨by rw [Array.getElem?_eq_getElem (by omega)]; rfl, rfl⟩
                have h1 : arr.all (·.oneCell') = true := by rw [harr]; simp [Value.oneCell']
                have hi : (Try.prog.info? 80).map (·.size) = some arr.toList.length := by rw [Array.length_toList, hsz]; kernel_rfl
                have hi' : (Try.prog.info? 80).map (·.size) = some arr.size := by rw [hsz]; kernel_rfl
                have hrr : (wc.setCells w.heap.size 0 arr.toList).rangeAt w.heap.size 0 arr.toList := World.rangeAt_setCells_same _ _ _ _ (by simpa using ht)
                have HA := Hid.mk' harr
                clear harr
                go_upto_region 37 with fail
                go_wp2_with (first | (refine wpList_load_mid rfl 80 _ rfl (w.heap.size + 1) 0 rfl arr.toList _ hr Try.underlying80 rfl hi ?_) | (refine wpList_store_mid rfl 80 _ _ rfl w.heap.size 0 arr rfl (by simp [Act.eval, Act.put]) ht hi' h1 ?_))
                skip
                refine bodyPost_ret (v := .agg arr) ?_ rfl ?_
                · have hl := run_loadVar_mid (P := Try.prog) (wc.setCells w.heap.size 0 arr.toList) w.heap.size 0 80 arr.toList _ hrr Try.underlying80 rfl hi
                  exact res22 _ _ _ _ (by simp [Act.put]) hl
                · have ab : Above (w.heap.size + 2) wc (wc.setCells w.heap.size 0 arr.toList) := Above.sets _ (by omega) _ _
                  refine ⟨.slice aP e.P.length cP, .slice aB e.B.length cB, .slice aT e.Tg.length cT, .slice aI nI cI, .slice aF e.F.length cF, ?_, (QP.out.above ab).pairs, (QB.out.above ab).trips, (QTg.out.above ab).pairs, ⟨_, _, _, rfl⟩, (QF.out.above ab).any, below_sets S5.out.below (Nat.le_refl _) _ _⟩
                  rw [HA.out, V7.out, V8.out, V11.out, V14.out]
end Go.Proofs.Qxb6616617a.W
