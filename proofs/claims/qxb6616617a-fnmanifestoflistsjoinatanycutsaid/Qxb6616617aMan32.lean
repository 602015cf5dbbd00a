/-
  manifestOf: the manifest is made, in memory of its own.
-/
import Derived.Test.Qxb6616617aGrow

import Derived.Test.Qxb6616617aElem
import Derived.Deep.Light
import Derived.Deep.RegionHeld3
import Derived.Deep.Cut
import Derived.Deep.CutRange
namespace Go.Proofs.Qxb6616617a.W
open Go.ChangeShapes Go.WideShapes Go.ChangeAt Go.RowKit
set_option linter.unusedVariables false

set_option maxRecDepth 100000 in
set_option maxHeartbeats 16000000 in
theorem manifest32 (e : E) (N : Nat) (w : World) (vP vB vT vF : Value) (h : Held e N w vP vB vT vF) (hsm : e.Small) :
    Calls Try.prog 32 #[.pointer (some ⟨N, 0, none⟩)] w fun x w' => Made e w x w' := by
  have d0 := h.at0
  have d1 := h.at1
  have d2 := h.at2
  have d3 := h.at3
  have d4 := h.at4
  have d5 := h.at5
  have d6 := h.at6
  have hNl : N < w.heap.size := World.block_lt_of_cell? w _ d0
  obtain ⟨a7, c7, hv7⟩ : ∃ a c, e.v7 = .slice a e.T.length c := by obtain ⟨b, o, ⟨a, c, hv, _⟩, _⟩ := h.T; exact ⟨a, c, hv⟩
  obtain ⟨L7, HL7⟩ : ∃ L, e.T.length = L := ⟨_, rfl⟩
  rw [HL7] at hv7
  have d7 := h.at7
  rw [hv7] at d7
  obtain ⟨a8, c8, hv8⟩ : ∃ a c, e.v8 = .slice a e.G.length c := by obtain ⟨b, o, ⟨a, c, hv, _⟩, _⟩ := h.G; exact ⟨a, c, hv⟩
  obtain ⟨L8, HL8⟩ : ∃ L, e.G.length = L := ⟨_, rfl⟩
  rw [HL8] at hv8
  have d8 := h.at8
  rw [hv8] at d8
  obtain ⟨a11, c11, hv11⟩ : ∃ a c, e.v11 = .slice a e.C.length c := by obtain ⟨b, o, ⟨a, c, hv, _⟩, _⟩ := h.C; exact ⟨a, c, hv⟩
  obtain ⟨L11, HL11⟩ : ∃ L, e.C.length = L := ⟨_, rfl⟩
  rw [HL11] at hv11
  have d11 := h.at11
  rw [hv11] at d11
  obtain ⟨gT, hgT⟩ : ∃ g, glue e.T 44 = g := ⟨_, rfl⟩
  have JT := Hid.mk' (show ∀ W : World, Below w.heap.size w W → Calls Try.prog 34 #[.slice a7 L7 c7, .string ⟨#[44]⟩] W fun x w' => x = .returned (.string gT) ∧ Below W.heap.size W w' from fun W hb => by
    rw [← hgT, ← hv7]
    exact join34 44 (h.T.below hb) h.capT hsm.T.1 hsm.T.2)
  obtain ⟨gG, hgG⟩ : ∃ g, glue e.G 32 = g := ⟨_, rfl⟩
  have JG := Hid.mk' (show ∀ W : World, Below w.heap.size w W → Calls Try.prog 34 #[.slice a8 L8 c8, .string ⟨#[32]⟩] W fun x w' => x = .returned (.string gG) ∧ Below W.heap.size W w' from fun W hb => by
    rw [← hgG, ← hv8]
    exact join34 32 (h.G.below hb) h.capG hsm.G.1 hsm.G.2)
  obtain ⟨gC, hgC⟩ : ∃ g, glue e.C 44 = g := ⟨_, rfl⟩
  have JC := Hid.mk' (show ∀ W : World, Below w.heap.size w W → Calls Try.prog 34 #[.slice a11 L11 c11, .string ⟨#[44]⟩] W fun x w' => x = .returned (.string gC) ∧ Below W.heap.size W w' from fun W hb => by
    rw [← hgC, ← hv11]
    exact join34 44 (h.C.below hb) h.capC hsm.C.1 hsm.C.2)
  have KD := Hid.mk' (show Below w.heap.size w w.drew ∧ w.drew.cell? ⟨N, 0, none⟩ = some (.string e.s0) ∧ w.drew.cell? ⟨N, 1, none⟩ = some (.string e.s1) ∧ w.drew.cell? ⟨N, 2, none⟩ = some (.string e.s2) ∧ w.drew.cell? ⟨N, 3, none⟩ = some (.string e.s3) ∧ w.drew.cell? ⟨N, 5, none⟩ = some (.string e.s5) ∧ w.drew.cell? ⟨N, 6, none⟩ = some (.string e.s6) ∧ w.drew.cell? ⟨N, 7, none⟩ = some (.slice a7 L7 c7) ∧ w.drew.cell? ⟨N, 8, none⟩ = some (.slice a8 L8 c8) ∧ w.drew.cell? ⟨N, 11, none⟩ = some (.slice a11 L11 c11) from ⟨(Below.refl _ _).drew, d0, d1, d2, d3, d5, d6, d7, d8, d11⟩)
  have KA := Hid.mk' (show ∀ (W : World) (o : Obj), Below w.heap.size w W ∧ W.cell? ⟨N, 0, none⟩ = some (.string e.s0) ∧ W.cell? ⟨N, 1, none⟩ = some (.string e.s1) ∧ W.cell? ⟨N, 2, none⟩ = some (.string e.s2) ∧ W.cell? ⟨N, 3, none⟩ = some (.string e.s3) ∧ W.cell? ⟨N, 5, none⟩ = some (.string e.s5) ∧ W.cell? ⟨N, 6, none⟩ = some (.string e.s6) ∧ W.cell? ⟨N, 7, none⟩ = some (.slice a7 L7 c7) ∧ W.cell? ⟨N, 8, none⟩ = some (.slice a8 L8 c8) ∧ W.cell? ⟨N, 11, none⟩ = some (.slice a11 L11 c11) → Below w.heap.size w (W.alloc o) ∧ (W.alloc o).cell? ⟨N, 0, none⟩ = some (.string e.s0) ∧ (W.alloc o).cell? ⟨N, 1, none⟩ = some (.string e.s1) ∧ (W.alloc o).cell? ⟨N, 2, none⟩ = some (.string e.s2) ∧ (W.alloc o).cell? ⟨N, 3, none⟩ = some (.string e.s3) ∧ (W.alloc o).cell? ⟨N, 5, none⟩ = some (.string e.s5) ∧ (W.alloc o).cell? ⟨N, 6, none⟩ = some (.string e.s6) ∧ (W.alloc o).cell? ⟨N, 7, none⟩ = some (.slice a7 L7 c7) ∧ (W.alloc o).cell? ⟨N, 8, none⟩ = some (.slice a8 L8 c8) ∧ (W.alloc o).cell? ⟨N, 11, none⟩ = some (.slice a11 L11 c11) from fun W o hS => by
    have hl : N < W.heap.size := Nat.lt_of_lt_of_le hNl hS.1.size
    refine ⟨hS.1.alloc hS.1.size _, ?_, ?_, ?_, ?_, ?_, ?_, ?_, ?_, ?_⟩
    all_goals rw [World.cell?_alloc_lt _ _ _ hl]
    · exact hS.2.1
    · exact hS.2.2.1
    · exact hS.2.2.2.1
    · exact hS.2.2.2.2.1
    · exact hS.2.2.2.2.2.1
    · exact hS.2.2.2.2.2.2.1
    · exact hS.2.2.2.2.2.2.2.1
    · exact hS.2.2.2.2.2.2.2.2.1
    · exact hS.2.2.2.2.2.2.2.2.2)
  have KM := Hid.mk' (show ∀ (W w1 : World), Below W.heap.size W w1 → (Below w.heap.size w W ∧ W.cell? ⟨N, 0, none⟩ = some (.string e.s0) ∧ W.cell? ⟨N, 1, none⟩ = some (.string e.s1) ∧ W.cell? ⟨N, 2, none⟩ = some (.string e.s2) ∧ W.cell? ⟨N, 3, none⟩ = some (.string e.s3) ∧ W.cell? ⟨N, 5, none⟩ = some (.string e.s5) ∧ W.cell? ⟨N, 6, none⟩ = some (.string e.s6) ∧ W.cell? ⟨N, 7, none⟩ = some (.slice a7 L7 c7) ∧ W.cell? ⟨N, 8, none⟩ = some (.slice a8 L8 c8) ∧ W.cell? ⟨N, 11, none⟩ = some (.slice a11 L11 c11)) → Below w.heap.size w w1 ∧ w1.cell? ⟨N, 0, none⟩ = some (.string e.s0) ∧ w1.cell? ⟨N, 1, none⟩ = some (.string e.s1) ∧ w1.cell? ⟨N, 2, none⟩ = some (.string e.s2) ∧ w1.cell? ⟨N, 3, none⟩ = some (.string e.s3) ∧ w1.cell? ⟨N, 5, none⟩ = some (.string e.s5) ∧ w1.cell? ⟨N, 6, none⟩ = some (.string e.s6) ∧ w1.cell? ⟨N, 7, none⟩ = some (.slice a7 L7 c7) ∧ w1.cell? ⟨N, 8, none⟩ = some (.slice a8 L8 c8) ∧ w1.cell? ⟨N, 11, none⟩ = some (.slice a11 L11 c11) from fun W w1 hb hS => by
    have hl : N < W.heap.size := Nat.lt_of_lt_of_le hNl hS.1.size
    refine ⟨hS.1.trans (hb.mono hS.1.size), ?_, ?_, ?_, ?_, ?_, ?_, ?_, ?_, ?_⟩
    · rw [hb.cell (p := ⟨N, 0, none⟩) hl]; exact hS.2.1
    · rw [hb.cell (p := ⟨N, 1, none⟩) hl]; exact hS.2.2.1
    · rw [hb.cell (p := ⟨N, 2, none⟩) hl]; exact hS.2.2.2.1
    · rw [hb.cell (p := ⟨N, 3, none⟩) hl]; exact hS.2.2.2.2.1
    · rw [hb.cell (p := ⟨N, 5, none⟩) hl]; exact hS.2.2.2.2.2.1
    · rw [hb.cell (p := ⟨N, 6, none⟩) hl]; exact hS.2.2.2.2.2.2.1
    · rw [hb.cell (p := ⟨N, 7, none⟩) hl]; exact hS.2.2.2.2.2.2.2.1
    · rw [hb.cell (p := ⟨N, 8, none⟩) hl]; exact hS.2.2.2.2.2.2.2.2.1
    · rw [hb.cell (p := ⟨N, 11, none⟩) hl]; exact hS.2.2.2.2.2.2.2.2.2)
  have KB := Hid.mk' (show ∀ W : World, (Below w.heap.size w W ∧ W.cell? ⟨N, 0, none⟩ = some (.string e.s0) ∧ W.cell? ⟨N, 1, none⟩ = some (.string e.s1) ∧ W.cell? ⟨N, 2, none⟩ = some (.string e.s2) ∧ W.cell? ⟨N, 3, none⟩ = some (.string e.s3) ∧ W.cell? ⟨N, 5, none⟩ = some (.string e.s5) ∧ W.cell? ⟨N, 6, none⟩ = some (.string e.s6) ∧ W.cell? ⟨N, 7, none⟩ = some (.slice a7 L7 c7) ∧ W.cell? ⟨N, 8, none⟩ = some (.slice a8 L8 c8) ∧ W.cell? ⟨N, 11, none⟩ = some (.slice a11 L11 c11)) → Below w.heap.size w W from fun W hS => hS.1)
  have HH := Hid.mk' h
  have HSm := Hid.mk' hsm
  have HGT := Hid.mk' hgT
  have HGG := Hid.mk' hgG
  have HGC := Hid.mk' hgC
  clear h hsm HL7 HL8 HL11 hv7 hv8 hv11 hgT hgG hgC
  clear d0 d1 d2 d3 d5 d6 d7 d8 d11 d4
  go_enter Try.func32, Try.ntmps32
  go_wp2
  go_region_held3 (fun w' => Below w.heap.size w w' ∧ w'.cell? ⟨N, 0, none⟩ = some (.string e.s0) ∧ w'.cell? ⟨N, 1, none⟩ = some (.string e.s1) ∧ w'.cell? ⟨N, 2, none⟩ = some (.string e.s2) ∧ w'.cell? ⟨N, 3, none⟩ = some (.string e.s3) ∧ w'.cell? ⟨N, 5, none⟩ = some (.string e.s5) ∧ w'.cell? ⟨N, 6, none⟩ = some (.string e.s6) ∧ w'.cell? ⟨N, 7, none⟩ = some (.slice a7 L7 c7) ∧ w'.cell? ⟨N, 8, none⟩ = some (.slice a8 L8 c8) ∧ w'.cell? ⟨N, 11, none⟩ = some (.slice a11 L11 c11)) (first | exact KD.out | exact KA.out _ _ (by assumption) | exact KM.out _ _ (by assumption) (by assumption)) (first | (go_at_call 34; with_reducible refine (JT.out _ (KB.out _ (by assumption))).mono ?_; rintro _ wT ⟨rfl, hbT⟩) | (go_at_call 34; with_reducible refine (JG.out _ (KB.out _ (by assumption))).mono ?_; rintro _ wG ⟨rfl, hbG⟩) | (go_at_call 34; with_reducible refine (JC.out _ (KB.out _ (by assumption))).mono ?_; rintro _ wC ⟨rfl, hbC⟩))
  have b1 : Below w.heap.size w wT := (Below.refl _ w).drew.trans hbT
  have b2 : Below w.heap.size w wG := b1.trans (hbG.mono b1.size)
  have b3 : Below w.heap.size w wC := b2.trans (hbC.mono b2.size)
  obtain ⟨H, hH⟩ : ∃ H, wC.heap.size = H := ⟨_, rfl⟩
  obtain ⟨wc, hwc⟩ : ∃ wc, wC.alloc (.cells #[.string ⟨#[]⟩, .string ⟨#[]⟩, .string ⟨#[104, 116, 116, 112, 58, 47, 47, 115, 99, 104, 101, 109, 97, 115, 46, 109, 105, 99, 114, 111, 115, 111, 102, 116, 46, 99, 111, 109, 47, 100, 101, 118, 101, 108, 111, 112, 101, 114, 47, 118, 115, 120, 45, 115, 99, 104, 101, 109, 97, 47, 50, 48, 49, 49]⟩, .string ⟨#[50, 46, 48, 46, 48]⟩, .string ⟨#[101, 110, 45, 85, 83]⟩, .string e.s1, .string e.s2, .string e.s0, .string e.s3, .pointer none, .string gT, .string gG, .string e.s5, .string gC, .string e.s6, .pointer none, .pointer none, .slice none 0 0, .slice none 0 0] 97) = wc := ⟨_, rfl⟩
  have S0 := Hid.mk' (show MSt w wc H #[.string ⟨#[]⟩, .string ⟨#[]⟩, .string ⟨#[104, 116, 116, 112, 58, 47, 47, 115, 99, 104, 101, 109, 97, 115, 46, 109, 105, 99, 114, 111, 115, 111, 102, 116, 46, 99, 111, 109, 47, 100, 101, 118, 101, 108, 111, 112, 101, 114, 47, 118, 115, 120, 45, 115, 99, 104, 101, 109, 97, 47, 50, 48, 49, 49]⟩, .string ⟨#[50, 46, 48, 46, 48]⟩, .string ⟨#[101, 110, 45, 85, 83]⟩, .string e.s1, .string e.s2, .string e.s0, .string e.s3, .pointer none, .string gT, .string gG, .string e.s5, .string gC, .string e.s6, .pointer none, .pointer none, .slice none 0 0, .slice none 0 0] by rw [← hwc, ← hH]; exact MSt.made b3 _)
  rw [hwc, hH]
  clear hwc hH b1 b2 b3 hbT hbG hbC KD KA KM KB JT JG JC
  as_aux_lemma =>
    have d4 : wc.cell? ⟨N, 4, none⟩ = some (.string e.s4) := by rw [S0.out.below.cell (p := ⟨N, 4, none⟩) hNl]; exact HH.out.at4
    have x9 : wc.cell? ⟨H, 9, none⟩ = some (.pointer none) := S0.out.cell 9
    have y9 : wc.frozen? ⟨H, 9, none⟩ = false := S0.out.free 9
    have hH : H < wc.heap.size := S0.out.lt
    have nH : H ≠ wc.heap.size := by omega
    obtain ⟨s4, h4⟩ : ∃ s, e.s4 = s := ⟨_, rfl⟩
    rw [h4] at d4
    have H4 := Hid.mk' h4
    clear h4
    go_upto_if 61 with fail
    go_cut [] from 57 to 71 (fun wd => ∃ dp, Hid (MSt w wd H #[.string ⟨#[]⟩, .string ⟨#[]⟩, .string ⟨#[104, 116, 116, 112, 58, 47, 47, 115, 99, 104, 101, 109, 97, 115, 46, 109, 105, 99, 114, 111, 115, 111, 102, 116, 46, 99, 111, 109, 47, 100, 101, 118, 101, 108, 111, 112, 101, 114, 47, 118, 115, 120, 45, 115, 99, 104, 101, 109, 97, 47, 50, 48, 49, 49]⟩, .string ⟨#[50, 46, 48, 46, 48]⟩, .string ⟨#[101, 110, 45, 85, 83]⟩, .string e.s1, .string e.s2, .string e.s0, .string e.s3, dp, .string gT, .string gG, .string e.s5, .string gC, .string e.s6, .pointer none, .pointer none, .slice none 0 0, .slice none 0 0] ∧ Desc (H + 1) wd dp s4 ∧ Above (H + 1) wc wd))
    case first =>
      as_aux_lemma =>
        cases hs : s4.toList.isEmpty with
        | true =>
          go_wp2
          go_meet
          case rel => exact ⟨_, S0.out, ⟨fun _ => rfl, fun k => (by rw [hs] at k; cases k)⟩, Above.refl _ _⟩
        | false =>
          go_wp2
          go_meet
          case rel =>
            have m1 := S0.out.set 9 (.pointer (some ⟨wc.heap.size, 0, none⟩))
            have e1 : (wc.setCell ⟨H, 9, none⟩ (.pointer (some ⟨wc.heap.size, 0, none⟩))).heap.size = wc.heap.size := by simp [World.setCell]
            refine ⟨.pointer (some ⟨wc.heap.size, 0, none⟩), m1.next ((Below.refl _ _).alloc (Nat.le_refl _) _), ⟨fun k => (by rw [hs] at k; cases k), fun _ => ⟨wc.heap.size, rfl, by omega, by simp [World.setCell], ?_, ?_⟩⟩, (Above.set wc (a := ⟨H, 9, none⟩) (by show H < H + 1; omega) _).trans (Above.below ((Below.refl _ _).alloc (Nat.le_refl _) _))⟩
            · rw [cell_set_new]; rfl
            · rw [cell_set_new]; rfl
    case rest =>
    as_aux_lemma =>
      obtain ⟨dp, R0⟩ := hcut
      have S1 := Hid.mk' R0.out.1
      have QD := Hid.mk' R0.out.2.1
      clear R0 S0 d4 x9 y9 hH nH
      -- ████ P
      obtain ⟨a9, c9, b9, o9, hv9, A9, C9⟩ : ∃ (a : Option Addr) (c b o : Nat), vP = .slice a e.P.length c ∧ Hid (0 < e.P.length → a = some ⟨b, o, none⟩ ∧ b < w.heap.size) ∧ Hid (∀ (j : Nat) x, e.P[j]? = some x → ElemPairs w b o j x) := by
        obtain ⟨b, o, ⟨a, c, h1, h2, h3⟩, h4⟩ := HH.out.P
        exact ⟨a, c, b, o, h1, h2, h4⟩
      obtain ⟨L9, HL9⟩ : ∃ L, e.P.length = L := ⟨_, rfl⟩
      have d9 : wc.cell? ⟨N, 9, none⟩ = some (.slice a9 L9 c9) := by rw [S1.out.below.cell (p := ⟨N, 9, none⟩) hNl, HH.out.at9, hv9, HL9]
      have x9 : wc.cell? ⟨H, 15, none⟩ = some (.pointer none) := S1.out.cell 15
      have y9 : wc.frozen? ⟨H, 15, none⟩ = false := S1.out.free 15
      have hH9 : H < wc.heap.size := S1.out.lt
      have lo9 : w.heap.size ≤ H := S1.out.lo
      have n1 : N ≠ H := by omega
      have n2 : H ≠ N := by omega
      have n3 : N < wc.heap.size := by omega
      have n4 : wc.heap.size ≠ N := by omega
      have n5 : wc.heap.size ≠ H := by omega
      have n6 : H ≠ wc.heap.size := by omega
      have hL9 : L9 ≤ 1048576 := by rw [← HL9]; exact HSm.out.P
      rw [HL9] at A9
      have NL9 := Hid.mk' HL9
      clear HL9 hv9
      go_upto_if 77 with fail
      go_cut [] from 72 to 115 (fun wd => ∃ pp, Hid (MSt w wd H #[.string ⟨#[]⟩, .string ⟨#[]⟩, .string ⟨#[104, 116, 116, 112, 58, 47, 47, 115, 99, 104, 101, 109, 97, 115, 46, 109, 105, 99, 114, 111, 115, 111, 102, 116, 46, 99, 111, 109, 47, 100, 101, 118, 101, 108, 111, 112, 101, 114, 47, 118, 115, 120, 45, 115, 99, 104, 101, 109, 97, 47, 50, 48, 49, 49]⟩, .string ⟨#[50, 46, 48, 46, 48]⟩, .string ⟨#[101, 110, 45, 85, 83]⟩, .string e.s1, .string e.s2, .string e.s0, .string e.s3, dp, .string gT, .string gG, .string e.s5, .string gC, .string e.s6, pp, .pointer none, .slice none 0 0, .slice none 0 0] ∧ Props (H + 1) wd pp e.P ∧ Above (H + 1) wc wd))
      case first =>
        as_aux_lemma =>
          by_cases hL : 0 < L9
          · obtain ⟨rfl, hb9⟩ := A9.out hL
            have hL' : (0 : Int) < (L9 : Int) := by omega
            go_wp2
            go_loopw [89] (fun i wl => ∃ (k : Nat) (v : Value), k ≤ L9 ∧ i = .int .i64 k ∧ Hid (StQ w wc wl H wc.heap.size #[.string ⟨#[]⟩, .string ⟨#[]⟩, .string ⟨#[104, 116, 116, 112, 58, 47, 47, 115, 99, 104, 101, 109, 97, 115, 46, 109, 105, 99, 114, 111, 115, 111, 102, 116, 46, 99, 111, 109, 47, 100, 101, 118, 101, 108, 111, 112, 101, 114, 47, 118, 115, 120, 45, 115, 99, 104, 101, 109, 97, 47, 50, 48, 49, 49]⟩, .string ⟨#[50, 46, 48, 46, 48]⟩, .string ⟨#[101, 110, 45, 85, 83]⟩, .string e.s1, .string e.s2, .string e.s0, .string e.s3, dp, .string gT, .string gG, .string e.s5, .string gC, .string e.s6, (.pointer (some ⟨wc.heap.size, 0, none⟩)), .pointer none, .slice none 0 0, .slice none 0 0] 103 105 2 v k ((e.P.take k).flatMap row2))) (fun i _ => L9 - (intOf i).toNat)
            case atStart =>
              refine ⟨0, .slice none 0 0, Nat.zero_le _, rfl, (S1.out.set 15 (.pointer (some ⟨wc.heap.size, 0, none⟩))).next ((Below.refl _ _).alloc (Nat.le_refl _) _), heap_set_new _ _ _ _, (Above.set wc (a := ⟨H, 15, none⟩) (by show H < H + 1; omega) _).trans (Above.below ((Below.refl _ _).alloc (Nat.le_refl _) _)), ⟨by simp, .inl ⟨rfl, rfl⟩⟩, by simp [World.setCell]⟩
            case round =>
              obtain ⟨k, v, hk, rfl, HR⟩ := hrel
              by_cases hlt : k < L9
              · obtain ⟨x, hx⟩ : ∃ x, e.P[k]? = some x := ⟨_, List.getElem?_eq_getElem (by rw [NL9.out]; exact hlt)⟩
                have ge := (C9.out k x hx).below HR.out.1.below hb9
                obtain ⟨g0, g1⟩ := ge
                have HX := Hid.mk' hx
                clear hx
                have xQ : wr.cell? ⟨wc.heap.size, 0, none⟩ = some v := cell_of_row _ _ _ _ _ _ HR.out.2.1
                have yQ : wr.frozen? ⟨wc.heap.size, 0, none⟩ = false := by simp [World.frozen?, HR.out.2.1]
                have xH : wr.cell? ⟨H, 15, none⟩ = some (.pointer (some ⟨wc.heap.size, 0, none⟩)) := HR.out.1.cell 15
                have hlt' : (k : Int) < (L9 : Int) := by omega
                have hk0 : (0 : Int) ≤ (k : Int) := by omega
                have z1 : wc.heap.size < wr.heap.size := HR.out.2.2.2.2
                go_wp2
                have z2 : H < wr.heap.size := HR.out.1.lt
                refine AnyS.begin 23 rfl (g := 19) (i0 := 12) (B := fun w' => w'.cell? ⟨H, 15, none⟩ = some (.pointer (some ⟨wc.heap.size, 0, none⟩)) ∧ w'.cell? ⟨wr.heap.size, 0, none⟩ = some (.string x.1) ∧ w'.cell? ⟨wr.heap.size, 1, none⟩ = some (.string x.2)) (A := fun w' => w'.cell? ⟨wc.heap.size, 0, none⟩ = some v) (by kernel_rfl) ⟨(old1 _ _ _ z2).trans xH, new1 _ _ _ 0, new1 _ _ _ 1⟩ ((old1 _ _ _ z1).trans xQ) (fun hG => ?_)
                refine AnyS.takeB (i := 0) (oi := { dst := some 93, op := _, type := _, pos := _, after := _, guard := none }) (v := _) rfl (by kernel_rfl) (by kernel_rfl) (by kernel_rfl) (fun _ _ _ h => h) (by decide) (by decide) (Or.inl ⟨rfl, fun w' hS => by (try dsimp only at hS); go_simp; try with_reducible rfl⟩) hG (fun hG => ?_)
                simp only [Act.put, List.setIfInBounds_toArray, List.set_cons_zero, List.set_cons_succ]
                refine AnyS.takeB (i := 1) (oi := { dst := some 94, op := _, type := _, pos := _, after := _, guard := none }) (v := _) rfl (by kernel_rfl) (by kernel_rfl) (by kernel_rfl) (fun _ _ _ h => h) (by decide) (by decide) (Or.inl ⟨rfl, fun w' hS => by (try dsimp only at hS); go_simp; try with_reducible rfl⟩) hG (fun hG => ?_)
                simp only [Act.put, List.setIfInBounds_toArray, List.set_cons_zero, List.set_cons_succ]
                refine AnyS.takeB (i := 2) (oi := { dst := some 95, op := _, type := _, pos := _, after := _, guard := none }) (v := _) rfl (by kernel_rfl) (by kernel_rfl) (by kernel_rfl) (fun _ _ _ h => h) (by decide) (by decide) (Or.inl ⟨rfl, fun w' hS => by (try dsimp only at hS); go_simp; try with_reducible rfl⟩) hG (fun hG => ?_)
                simp only [Act.put, List.setIfInBounds_toArray, List.set_cons_zero, List.set_cons_succ]
                refine AnyS.takeB (i := 3) (oi := { dst := some 96, op := _, type := _, pos := _, after := _, guard := none }) (v := _) rfl (by kernel_rfl) (by kernel_rfl) (by kernel_rfl) (fun _ _ _ h => h) (by decide) (by decide) (Or.inl ⟨rfl, fun w' hS => by (try dsimp only at hS); go_simp; try with_reducible rfl⟩) hG (fun hG => ?_)
                simp only [Act.put, List.setIfInBounds_toArray, List.set_cons_zero, List.set_cons_succ]
                refine AnyS.takeB (i := 4) (oi := { dst := some 97, op := _, type := _, pos := _, after := _, guard := none }) (v := _) rfl (by kernel_rfl) (by kernel_rfl) (by kernel_rfl) (fun _ _ _ h => h) (by decide) (by decide) (Or.inl ⟨rfl, fun w' hS => by (try dsimp only at hS); go_simp; try with_reducible rfl⟩) hG (fun hG => ?_)
                simp only [Act.put, List.setIfInBounds_toArray, List.set_cons_zero, List.set_cons_succ]
                refine AnyS.takeB (i := 5) (oi := { dst := some 98, op := _, type := _, pos := _, after := _, guard := none }) (v := _) rfl (by kernel_rfl) (by kernel_rfl) (by kernel_rfl) (fun _ _ _ h => h) (by decide) (by decide) (Or.inl ⟨rfl, fun w' hS => by (try dsimp only at hS); go_simp; try with_reducible rfl⟩) hG (fun hG => ?_)
                simp only [Act.put, List.setIfInBounds_toArray, List.set_cons_zero, List.set_cons_succ]
                refine AnyS.takeB (i := 6) (oi := { dst := some 99, op := _, type := _, pos := _, after := _, guard := none }) (v := _) rfl (by kernel_rfl) (by kernel_rfl) (by kernel_rfl) (fun _ _ _ h => h) (by decide) (by decide) (Or.inl ⟨rfl, fun w' hS => by (try dsimp only at hS); go_simp; try with_reducible rfl⟩) hG (fun hG => ?_)
                simp only [Act.put, List.setIfInBounds_toArray, List.set_cons_zero, List.set_cons_succ]
                refine AnyS.takeB (i := 7) (oi := { dst := some 100, op := _, type := _, pos := _, after := _, guard := none }) (v := _) rfl (by kernel_rfl) (by kernel_rfl) (by kernel_rfl) (fun _ _ _ h => h) (by decide) (by decide) (Or.inl ⟨rfl, fun w' hS => by (try dsimp only at hS); go_simp; try with_reducible rfl⟩) hG (fun hG => ?_)
                simp only [Act.put, List.setIfInBounds_toArray, List.set_cons_zero, List.set_cons_succ]
                refine AnyS.takeB (i := 8) (oi := { dst := some 101, op := _, type := _, pos := _, after := _, guard := none }) (v := _) rfl (by kernel_rfl) (by kernel_rfl) (by kernel_rfl) (fun _ _ _ h => h) (by decide) (by decide) (Or.inl ⟨rfl, fun w' hS => by (try dsimp only at hS); go_simp; try with_reducible rfl⟩) hG (fun hG => ?_)
                simp only [Act.put, List.setIfInBounds_toArray, List.set_cons_zero, List.set_cons_succ]
                refine AnyS.takeB (i := 9) (oi := { dst := some 102, op := _, type := _, pos := _, after := _, guard := none }) (v := _) rfl (by kernel_rfl) (by kernel_rfl) (by kernel_rfl) (fun _ _ _ h => h) (by decide) (by decide) (Or.inl ⟨rfl, fun w' hS => by (try dsimp only at hS); go_simp; try with_reducible rfl⟩) hG (fun hG => ?_)
                simp only [Act.put, List.setIfInBounds_toArray, List.set_cons_zero, List.set_cons_succ]
                refine AnyS.takeB (i := 10) (oi := { dst := some 103, op := _, type := _, pos := _, after := _, guard := none }) (v := _) rfl (by kernel_rfl) (by kernel_rfl) (by kernel_rfl) (fun _ _ _ h => h) (by decide) (by decide) (Or.inl ⟨rfl, fun w' hS => by (try dsimp only at hS); go_simp; try with_reducible rfl⟩) hG (fun hG => ?_)
                simp only [Act.put, List.setIfInBounds_toArray, List.set_cons_zero, List.set_cons_succ]
                refine AnyS.takeB (i := 11) (oi := { dst := some 104, op := _, type := _, pos := _, after := _, guard := none }) (v := _) rfl (by kernel_rfl) (by kernel_rfl) (by kernel_rfl) (fun _ _ _ h => h) (by decide) (by decide) (Or.inl ⟨rfl, fun w' hS => by (try dsimp only at hS); go_simp; try with_reducible rfl⟩) hG (fun hG => ?_)
                simp only [Act.put, List.setIfInBounds_toArray, List.set_cons_zero, List.set_cons_succ]
                refine AnyS.takeA (oi := { dst := some 105, op := _, type := _, pos := _, after := _, guard := none }) (v := _) rfl (by kernel_rfl) (by kernel_rfl) (by kernel_rfl) (fun _ _ _ h => h) (by decide) rfl (by kernel_rfl) (Or.inl ⟨rfl, fun w' hS => by (try dsimp only at hS); go_simp; try with_reducible rfl⟩) hG (fun hG => ?_)
                simp only [Act.put, List.setIfInBounds_toArray, List.set_cons_zero, List.set_cons_succ]
                refine AnyS.takeB (i := 13) (oi := { dst := some 106, op := _, type := _, pos := _, after := _, guard := none }) (v := _) rfl (by kernel_rfl) (by kernel_rfl) (by kernel_rfl) (fun _ _ _ h => h) (by decide) (by decide) (Or.inl ⟨rfl, fun w' hS => by (try dsimp only at hS); go_simp; try with_reducible rfl⟩) hG (fun hG => ?_)
                simp only [Act.put, List.setIfInBounds_toArray, List.set_cons_zero, List.set_cons_succ]
                refine AnyS.takeB (i := 14) (oi := { dst := some 107, op := _, type := _, pos := _, after := _, guard := none }) (v := _) rfl (by kernel_rfl) (by kernel_rfl) (by kernel_rfl) (fun _ _ _ h => h) (by decide) (by decide) (Or.inl ⟨rfl, fun w' hS => by (try dsimp only at hS); go_simp; try with_reducible rfl⟩) hG (fun hG => ?_)
                simp only [Act.put, List.setIfInBounds_toArray, List.set_cons_zero, List.set_cons_succ]
                refine AnyS.takeB (i := 15) (oi := { dst := some 108, op := _, type := _, pos := _, after := _, guard := none }) (v := _) rfl (by kernel_rfl) (by kernel_rfl) (by kernel_rfl) (fun _ _ _ h => h) (by decide) (by decide) (Or.inl ⟨rfl, fun w' hS => by (try dsimp only at hS); go_simp; try with_reducible rfl⟩) hG (fun hG => ?_)
                simp only [Act.put, List.setIfInBounds_toArray, List.set_cons_zero, List.set_cons_succ]
                refine AnyS.takeB (i := 16) (oi := { dst := some 109, op := _, type := _, pos := _, after := _, guard := none }) (v := _) rfl (by kernel_rfl) (by kernel_rfl) (by kernel_rfl) (fun _ _ _ h => h) (by decide) (by decide) (Or.inl ⟨rfl, fun w' hS => by (try dsimp only at hS); go_simp; try with_reducible rfl⟩) hG (fun hG => ?_)
                simp only [Act.put, List.setIfInBounds_toArray, List.set_cons_zero, List.set_cons_succ]
                refine AnyS.takeB (i := 17) (oi := { dst := some 110, op := _, type := _, pos := _, after := _, guard := none }) (v := _) rfl (by kernel_rfl) (by kernel_rfl) (by kernel_rfl) (fun _ _ _ h => h) (by decide) (by decide) (Or.inl ⟨rfl, fun w' hS => by (try dsimp only at hS); go_simp; try with_reducible rfl⟩) hG (fun hG => ?_)
                simp only [Act.put, List.setIfInBounds_toArray, List.set_cons_zero, List.set_cons_succ]
                refine AnyS.one1 (i := 18) (oi := { dst := some 111, op := .buildSlice 101 1 #[(0, .tmp 110)], type := 101, pos := _, after := _, guard := none }) rfl (by kernel_rfl) rfl (fun Q' K' hK => ?_)
                go_simp
                refine hK.out _ _ ⟨⟨(old2 _ _ _ _ z2).trans xH, new2 _ _ _ _ 0, new2 _ _ _ _ 1⟩, fun _ => rfl, Or.inl ((old2 _ _ _ _ z1).trans xQ)⟩ (fun hG => ?_)
                clear hK K' Q'
                refine AnyS.one1 (i := 19) (oi := { dst := some 112, op := .call { callee := .builtin .append, args := #[.tmp 105, .tmp 111], argTypes := #[101, 101] }, type := 101, pos := _, after := _, guard := none }) rfl (by kernel_rfl) rfl (fun Q' K' hK => ?_)
                obtain ⟨ti, tz, hti, htz, hts, htb, htc⟩ := info_row (e := 105) (size := 2) (bytes := 32) (by kernel_rfl)
                refine wp_append_lies _ (.tmp 105) (.tmp 111) 101 rfl (wc.heap.size + 1) 105 ti tz 2 32 Try.underlying101 hti htz hts htb htc (by decide) v k _ rfl (grow_own HR.out.2.2.2.1) ⟨wr.heap.size + 1, 0, none⟩ 1 1 [.string x.1, .string x.2] rfl rfl (World.news_of_block (heap2 _ _ _)) (by simp [Value.oneCell']) (by decide) (by unfold maxLen; omega) (by omega) (by rw [size2]; omega) _ rfl (fun g cap w1 ho hg hat hlt => ?_)
                refine hK.out _ _ ⟨⟨(grow_old HR.out.2.2.2.1 HR.out.2.2.2.2 hg _ (by show H < wc.heap.size + 1; omega)).trans xH, (grow_cell HR.out.2.2.2.1 hg 0).trans (World.cell?_alloc_new _ _ _ 0), (grow_cell HR.out.2.2.2.1 hg 1).trans (World.cell?_alloc_new _ _ _ 1)⟩, fun _ => rfl, Or.inr rfl⟩ (fun hG => ?_)
                clear hK K' Q'
                have wQ : w1.cell? ⟨wc.heap.size, 0, none⟩ = some v := by rw [grow_old HR.out.2.2.2.1 HR.out.2.2.2.2 hg _ (by show wc.heap.size < wc.heap.size + 1; omega)]; exact xQ
                have vQ : w1.frozen? ⟨wc.heap.size, 0, none⟩ = false := by rw [grow_free HR.out.2.2.2.1 HR.out.2.2.2.2 hg _ (by show wc.heap.size < wc.heap.size + 1; omega)]; exact yQ
                simp only [Act.put, List.setIfInBounds_toArray, List.set_cons_zero, List.set_cons_succ]
                refine AnyS.takeB (i := 20) (oi := { dst := some 113, op := _, type := _, pos := _, after := _, guard := none }) (v := _) rfl (by kernel_rfl) (by kernel_rfl) (by kernel_rfl) (fun _ _ _ h => h) (by decide) (by decide) (Or.inl ⟨rfl, fun w' hS => by (try dsimp only at hS); go_simp; try with_reducible rfl⟩) hG (fun hG => ?_)
                simp only [Act.put, List.setIfInBounds_toArray, List.set_cons_zero, List.set_cons_succ]
                refine AnyS.takeB (i := 21) (oi := { dst := some 114, op := _, type := _, pos := _, after := _, guard := none }) (v := _) rfl (by kernel_rfl) (by kernel_rfl) (by kernel_rfl) (fun _ _ _ h => h) (by decide) (by decide) (Or.inl ⟨rfl, fun w' hS => by (try dsimp only at hS); go_simp; try with_reducible rfl⟩) hG (fun hG => ?_)
                simp only [Act.put, List.setIfInBounds_toArray, List.set_cons_zero, List.set_cons_succ]
                refine AnyS.one1 (i := 22) (oi := { dst := none, op := .store 101 (.tmp 114) (.tmp 112), type := _, pos := _, after := _, guard := none }) rfl (by kernel_rfl) rfl (fun Q' K' hK => ?_)
                go_simp
                refine hK.out _ _ ⟨⟨(World.cell?_setCell_far _ _ _ _ (by show wc.heap.size ≠ H; omega)).trans hG.1.1, (World.cell?_setCell_far _ _ _ _ (by show wc.heap.size ≠ wr.heap.size; omega)).trans hG.1.2.1, (World.cell?_setCell_far _ _ _ _ (by show wc.heap.size ≠ wr.heap.size; omega)).trans hG.1.2.2⟩, fun _ => rfl, Or.inr rfl⟩ (fun hG => ?_)
                clear hK K' Q'
                refine AnyS.done (by kernel_rfl) ?_ _
                clear hG wQ vQ
                go_wp2
                go_roundw
                case rel => exact ⟨k + 1, _, by omega, by go_num, StQ.push HR.out rfl (by omega) (by rw [flat_take row2 HX.out]; exact ho) hg⟩
                case measure => go_light; simp [intOf]; omega
              · have hlt' : ¬ (k : Int) < (L9 : Int) := by omega
                go_wp2
                go_meet
                case rel =>
                  have hkL : k = e.P.length := by rw [NL9.out]; omega
                  have ho := HR.out.2.2.2.1
                  rw [hkL, List.take_length] at ho
                  exact ⟨_, HR.out.1, ⟨fun h0 => absurd h0 (by rw [NL9.out]; omega), fun _ => ⟨_, v, rfl, by omega, HR.out.2.2.2.2, cell_of_row _ _ _ _ _ _ HR.out.2.1, PairsA.own ho (by omega)⟩⟩, HR.out.2.2.1⟩
          · have hL' : ¬ (0 : Int) < (L9 : Int) := by omega
            go_wp2
            go_meet
            case rel => exact ⟨_, S1.out, ⟨fun _ => rfl, fun k => absurd k (by rw [NL9.out]; exact hL)⟩, Above.refl _ _⟩
      case rest =>
      as_aux_lemma =>
        obtain ⟨pp, R0⟩ := hcut
        have S2 := Hid.mk' R0.out.1
        have QP := Hid.mk' R0.out.2.1
        have QD' := Hid.mk' (QD.out.above R0.out.2.2)
        clear R0 S1 d9 x9 y9 hH9 lo9 n1 n2 n3 n4 n5 n6 hL9 A9 C9 NL9 QD
        have QD := QD'
        clear QD'
        -- ████ B
        obtain ⟨a10, c10, b10, o10, hv10, A10, C10⟩ : ∃ (a : Option Addr) (c b o : Nat), vB = .slice a e.B.length c ∧ Hid (0 < e.B.length → a = some ⟨b, o, none⟩ ∧ b < w.heap.size) ∧ Hid (∀ (j : Nat) x, e.B[j]? = some x → ElemTrips w b o j x) := by
          obtain ⟨b, o, ⟨a, c, h1, h2, h3⟩, h4⟩ := HH.out.B
          exact ⟨a, c, b, o, h1, h2, h4⟩
        obtain ⟨L10, HL10⟩ : ∃ L, e.B.length = L := ⟨_, rfl⟩
        have d10 : wc.cell? ⟨N, 10, none⟩ = some (.slice a10 L10 c10) := by rw [S2.out.below.cell (p := ⟨N, 10, none⟩) hNl, HH.out.at10, hv10, HL10]
        have x10 : wc.cell? ⟨H, 16, none⟩ = some (.pointer none) := S2.out.cell 16
        have y10 : wc.frozen? ⟨H, 16, none⟩ = false := S2.out.free 16
        have hH10 : H < wc.heap.size := S2.out.lt
        have lo10 : w.heap.size ≤ H := S2.out.lo
        have n1 : N ≠ H := by omega
        have n2 : H ≠ N := by omega
        have n3 : N < wc.heap.size := by omega
        have n4 : wc.heap.size ≠ N := by omega
        have n5 : wc.heap.size ≠ H := by omega
        have n6 : H ≠ wc.heap.size := by omega
        have hL10 : L10 ≤ 1048576 := by rw [← HL10]; exact HSm.out.B
        rw [HL10] at A10
        have NL10 := Hid.mk' HL10
        clear HL10 hv10
        go_upto_if 121 with fail
        go_cut [] from 116 to 161 (fun wd => ∃ bp, Hid (MSt w wd H #[.string ⟨#[]⟩, .string ⟨#[]⟩, .string ⟨#[104, 116, 116, 112, 58, 47, 47, 115, 99, 104, 101, 109, 97, 115, 46, 109, 105, 99, 114, 111, 115, 111, 102, 116, 46, 99, 111, 109, 47, 100, 101, 118, 101, 108, 111, 112, 101, 114, 47, 118, 115, 120, 45, 115, 99, 104, 101, 109, 97, 47, 50, 48, 49, 49]⟩, .string ⟨#[50, 46, 48, 46, 48]⟩, .string ⟨#[101, 110, 45, 85, 83]⟩, .string e.s1, .string e.s2, .string e.s0, .string e.s3, dp, .string gT, .string gG, .string e.s5, .string gC, .string e.s6, pp, bp, .slice none 0 0, .slice none 0 0] ∧ Bads (H + 1) wd bp e.B ∧ Above (H + 1) wc wd))
        case first =>
          as_aux_lemma =>
            by_cases hL : 0 < L10
            · obtain ⟨rfl, hb10⟩ := A10.out hL
              have hL' : (0 : Int) < (L10 : Int) := by omega
              go_wp2
              go_loopw [133] (fun i wl => ∃ (k : Nat) (v : Value), k ≤ L10 ∧ i = .int .i64 k ∧ Hid (StQ w wc wl H wc.heap.size #[.string ⟨#[]⟩, .string ⟨#[]⟩, .string ⟨#[104, 116, 116, 112, 58, 47, 47, 115, 99, 104, 101, 109, 97, 115, 46, 109, 105, 99, 114, 111, 115, 111, 102, 116, 46, 99, 111, 109, 47, 100, 101, 118, 101, 108, 111, 112, 101, 114, 47, 118, 115, 120, 45, 115, 99, 104, 101, 109, 97, 47, 50, 48, 49, 49]⟩, .string ⟨#[50, 46, 48, 46, 48]⟩, .string ⟨#[101, 110, 45, 85, 83]⟩, .string e.s1, .string e.s2, .string e.s0, .string e.s3, dp, .string gT, .string gG, .string e.s5, .string gC, .string e.s6, pp, (.pointer (some ⟨wc.heap.size, 0, none⟩)), .slice none 0 0, .slice none 0 0] 110 112 3 v k ((e.B.take k).flatMap row3))) (fun i _ => L10 - (intOf i).toNat)
              case atStart =>
                refine ⟨0, .slice none 0 0, Nat.zero_le _, rfl, (S2.out.set 16 (.pointer (some ⟨wc.heap.size, 0, none⟩))).next ((Below.refl _ _).alloc (Nat.le_refl _) _), heap_set_new _ _ _ _, (Above.set wc (a := ⟨H, 16, none⟩) (by show H < H + 1; omega) _).trans (Above.below ((Below.refl _ _).alloc (Nat.le_refl _) _)), ⟨by simp, .inl ⟨rfl, rfl⟩⟩, by simp [World.setCell]⟩
              case round =>
                obtain ⟨k, v, hk, rfl, HR⟩ := hrel
                by_cases hlt : k < L10
                · obtain ⟨x, hx⟩ : ∃ x, e.B[k]? = some x := ⟨_, List.getElem?_eq_getElem (by rw [NL10.out]; exact hlt)⟩
                  have ge := (C10.out k x hx).below HR.out.1.below hb10
                  obtain ⟨g0, g1, g2⟩ := ge
                  have HX := Hid.mk' hx
                  clear hx
                  have xQ : wr.cell? ⟨wc.heap.size, 0, none⟩ = some v := cell_of_row _ _ _ _ _ _ HR.out.2.1
                  have yQ : wr.frozen? ⟨wc.heap.size, 0, none⟩ = false := by simp [World.frozen?, HR.out.2.1]
                  have xH : wr.cell? ⟨H, 16, none⟩ = some (.pointer (some ⟨wc.heap.size, 0, none⟩)) := HR.out.1.cell 16
                  have hlt' : (k : Int) < (L10 : Int) := by omega
                  have hk0 : (0 : Int) ≤ (k : Int) := by omega
                  have z1 : wc.heap.size < wr.heap.size := HR.out.2.2.2.2
                  go_wp2
                  have z2 : H < wr.heap.size := HR.out.1.lt
                  refine AnyS.begin 25 rfl (g := 21) (i0 := 12) (B := fun w' => w'.cell? ⟨H, 16, none⟩ = some (.pointer (some ⟨wc.heap.size, 0, none⟩)) ∧ w'.cell? ⟨wr.heap.size, 0, none⟩ = some (.string x.1) ∧ w'.cell? ⟨wr.heap.size, 1, none⟩ = some (.string x.2.1) ∧ w'.cell? ⟨wr.heap.size, 2, none⟩ = some (.string x.2.2)) (A := fun w' => w'.cell? ⟨wc.heap.size, 0, none⟩ = some v) (by kernel_rfl) ⟨(old1 _ _ _ z2).trans xH, new1 _ _ _ 0, new1 _ _ _ 1, new1 _ _ _ 2⟩ ((old1 _ _ _ z1).trans xQ) (fun hG => ?_)
                  refine AnyS.takeB (i := 0) (oi := { dst := some 137, op := _, type := _, pos := _, after := _, guard := none }) (v := _) rfl (by kernel_rfl) (by kernel_rfl) (by kernel_rfl) (fun _ _ _ h => h) (by decide) (by decide) (Or.inl ⟨rfl, fun w' hS => by (try dsimp only at hS); go_simp; try with_reducible rfl⟩) hG (fun hG => ?_)
                  simp only [Act.put, List.setIfInBounds_toArray, List.set_cons_zero, List.set_cons_succ]
                  refine AnyS.takeB (i := 1) (oi := { dst := some 138, op := _, type := _, pos := _, after := _, guard := none }) (v := _) rfl (by kernel_rfl) (by kernel_rfl) (by kernel_rfl) (fun _ _ _ h => h) (by decide) (by decide) (Or.inl ⟨rfl, fun w' hS => by (try dsimp only at hS); go_simp; try with_reducible rfl⟩) hG (fun hG => ?_)
                  simp only [Act.put, List.setIfInBounds_toArray, List.set_cons_zero, List.set_cons_succ]
                  refine AnyS.takeB (i := 2) (oi := { dst := some 139, op := _, type := _, pos := _, after := _, guard := none }) (v := _) rfl (by kernel_rfl) (by kernel_rfl) (by kernel_rfl) (fun _ _ _ h => h) (by decide) (by decide) (Or.inl ⟨rfl, fun w' hS => by (try dsimp only at hS); go_simp; try with_reducible rfl⟩) hG (fun hG => ?_)
                  simp only [Act.put, List.setIfInBounds_toArray, List.set_cons_zero, List.set_cons_succ]
                  refine AnyS.takeB (i := 3) (oi := { dst := some 140, op := _, type := _, pos := _, after := _, guard := none }) (v := _) rfl (by kernel_rfl) (by kernel_rfl) (by kernel_rfl) (fun _ _ _ h => h) (by decide) (by decide) (Or.inl ⟨rfl, fun w' hS => by (try dsimp only at hS); go_simp; try with_reducible rfl⟩) hG (fun hG => ?_)
                  simp only [Act.put, List.setIfInBounds_toArray, List.set_cons_zero, List.set_cons_succ]
                  refine AnyS.takeB (i := 4) (oi := { dst := some 141, op := _, type := _, pos := _, after := _, guard := none }) (v := _) rfl (by kernel_rfl) (by kernel_rfl) (by kernel_rfl) (fun _ _ _ h => h) (by decide) (by decide) (Or.inl ⟨rfl, fun w' hS => by (try dsimp only at hS); go_simp; try with_reducible rfl⟩) hG (fun hG => ?_)
                  simp only [Act.put, List.setIfInBounds_toArray, List.set_cons_zero, List.set_cons_succ]
                  refine AnyS.takeB (i := 5) (oi := { dst := some 142, op := _, type := _, pos := _, after := _, guard := none }) (v := _) rfl (by kernel_rfl) (by kernel_rfl) (by kernel_rfl) (fun _ _ _ h => h) (by decide) (by decide) (Or.inl ⟨rfl, fun w' hS => by (try dsimp only at hS); go_simp; try with_reducible rfl⟩) hG (fun hG => ?_)
                  simp only [Act.put, List.setIfInBounds_toArray, List.set_cons_zero, List.set_cons_succ]
                  refine AnyS.takeB (i := 6) (oi := { dst := some 143, op := _, type := _, pos := _, after := _, guard := none }) (v := _) rfl (by kernel_rfl) (by kernel_rfl) (by kernel_rfl) (fun _ _ _ h => h) (by decide) (by decide) (Or.inl ⟨rfl, fun w' hS => by (try dsimp only at hS); go_simp; try with_reducible rfl⟩) hG (fun hG => ?_)
                  simp only [Act.put, List.setIfInBounds_toArray, List.set_cons_zero, List.set_cons_succ]
                  refine AnyS.takeB (i := 7) (oi := { dst := some 144, op := _, type := _, pos := _, after := _, guard := none }) (v := _) rfl (by kernel_rfl) (by kernel_rfl) (by kernel_rfl) (fun _ _ _ h => h) (by decide) (by decide) (Or.inl ⟨rfl, fun w' hS => by (try dsimp only at hS); go_simp; try with_reducible rfl⟩) hG (fun hG => ?_)
                  simp only [Act.put, List.setIfInBounds_toArray, List.set_cons_zero, List.set_cons_succ]
                  refine AnyS.takeB (i := 8) (oi := { dst := some 145, op := _, type := _, pos := _, after := _, guard := none }) (v := _) rfl (by kernel_rfl) (by kernel_rfl) (by kernel_rfl) (fun _ _ _ h => h) (by decide) (by decide) (Or.inl ⟨rfl, fun w' hS => by (try dsimp only at hS); go_simp; try with_reducible rfl⟩) hG (fun hG => ?_)
                  simp only [Act.put, List.setIfInBounds_toArray, List.set_cons_zero, List.set_cons_succ]
                  refine AnyS.takeB (i := 9) (oi := { dst := some 146, op := _, type := _, pos := _, after := _, guard := none }) (v := _) rfl (by kernel_rfl) (by kernel_rfl) (by kernel_rfl) (fun _ _ _ h => h) (by decide) (by decide) (Or.inl ⟨rfl, fun w' hS => by (try dsimp only at hS); go_simp; try with_reducible rfl⟩) hG (fun hG => ?_)
                  simp only [Act.put, List.setIfInBounds_toArray, List.set_cons_zero, List.set_cons_succ]
                  refine AnyS.takeB (i := 10) (oi := { dst := some 147, op := _, type := _, pos := _, after := _, guard := none }) (v := _) rfl (by kernel_rfl) (by kernel_rfl) (by kernel_rfl) (fun _ _ _ h => h) (by decide) (by decide) (Or.inl ⟨rfl, fun w' hS => by (try dsimp only at hS); go_simp; try with_reducible rfl⟩) hG (fun hG => ?_)
                  simp only [Act.put, List.setIfInBounds_toArray, List.set_cons_zero, List.set_cons_succ]
                  refine AnyS.takeB (i := 11) (oi := { dst := some 148, op := _, type := _, pos := _, after := _, guard := none }) (v := _) rfl (by kernel_rfl) (by kernel_rfl) (by kernel_rfl) (fun _ _ _ h => h) (by decide) (by decide) (Or.inl ⟨rfl, fun w' hS => by (try dsimp only at hS); go_simp; try with_reducible rfl⟩) hG (fun hG => ?_)
                  simp only [Act.put, List.setIfInBounds_toArray, List.set_cons_zero, List.set_cons_succ]
                  refine AnyS.takeA (oi := { dst := some 149, op := _, type := _, pos := _, after := _, guard := none }) (v := _) rfl (by kernel_rfl) (by kernel_rfl) (by kernel_rfl) (fun _ _ _ h => h) (by decide) rfl (by kernel_rfl) (Or.inl ⟨rfl, fun w' hS => by (try dsimp only at hS); go_simp; try with_reducible rfl⟩) hG (fun hG => ?_)
                  simp only [Act.put, List.setIfInBounds_toArray, List.set_cons_zero, List.set_cons_succ]
                  refine AnyS.takeB (i := 13) (oi := { dst := some 150, op := _, type := _, pos := _, after := _, guard := none }) (v := _) rfl (by kernel_rfl) (by kernel_rfl) (by kernel_rfl) (fun _ _ _ h => h) (by decide) (by decide) (Or.inl ⟨rfl, fun w' hS => by (try dsimp only at hS); go_simp; try with_reducible rfl⟩) hG (fun hG => ?_)
                  simp only [Act.put, List.setIfInBounds_toArray, List.set_cons_zero, List.set_cons_succ]
                  refine AnyS.takeB (i := 14) (oi := { dst := some 151, op := _, type := _, pos := _, after := _, guard := none }) (v := _) rfl (by kernel_rfl) (by kernel_rfl) (by kernel_rfl) (fun _ _ _ h => h) (by decide) (by decide) (Or.inl ⟨rfl, fun w' hS => by (try dsimp only at hS); go_simp; try with_reducible rfl⟩) hG (fun hG => ?_)
                  simp only [Act.put, List.setIfInBounds_toArray, List.set_cons_zero, List.set_cons_succ]
                  refine AnyS.takeB (i := 15) (oi := { dst := some 152, op := _, type := _, pos := _, after := _, guard := none }) (v := _) rfl (by kernel_rfl) (by kernel_rfl) (by kernel_rfl) (fun _ _ _ h => h) (by decide) (by decide) (Or.inl ⟨rfl, fun w' hS => by (try dsimp only at hS); go_simp; try with_reducible rfl⟩) hG (fun hG => ?_)
                  simp only [Act.put, List.setIfInBounds_toArray, List.set_cons_zero, List.set_cons_succ]
                  refine AnyS.takeB (i := 16) (oi := { dst := some 153, op := _, type := _, pos := _, after := _, guard := none }) (v := _) rfl (by kernel_rfl) (by kernel_rfl) (by kernel_rfl) (fun _ _ _ h => h) (by decide) (by decide) (Or.inl ⟨rfl, fun w' hS => by (try dsimp only at hS); go_simp; try with_reducible rfl⟩) hG (fun hG => ?_)
                  simp only [Act.put, List.setIfInBounds_toArray, List.set_cons_zero, List.set_cons_succ]
                  refine AnyS.takeB (i := 17) (oi := { dst := some 154, op := _, type := _, pos := _, after := _, guard := none }) (v := _) rfl (by kernel_rfl) (by kernel_rfl) (by kernel_rfl) (fun _ _ _ h => h) (by decide) (by decide) (Or.inl ⟨rfl, fun w' hS => by (try dsimp only at hS); go_simp; try with_reducible rfl⟩) hG (fun hG => ?_)
                  simp only [Act.put, List.setIfInBounds_toArray, List.set_cons_zero, List.set_cons_succ]
                  refine AnyS.takeB (i := 18) (oi := { dst := some 155, op := _, type := _, pos := _, after := _, guard := none }) (v := _) rfl (by kernel_rfl) (by kernel_rfl) (by kernel_rfl) (fun _ _ _ h => h) (by decide) (by decide) (Or.inl ⟨rfl, fun w' hS => by (try dsimp only at hS); go_simp; try with_reducible rfl⟩) hG (fun hG => ?_)
                  simp only [Act.put, List.setIfInBounds_toArray, List.set_cons_zero, List.set_cons_succ]
                  refine AnyS.takeB (i := 19) (oi := { dst := some 156, op := _, type := _, pos := _, after := _, guard := none }) (v := _) rfl (by kernel_rfl) (by kernel_rfl) (by kernel_rfl) (fun _ _ _ h => h) (by decide) (by decide) (Or.inl ⟨rfl, fun w' hS => by (try dsimp only at hS); go_simp; try with_reducible rfl⟩) hG (fun hG => ?_)
                  simp only [Act.put, List.setIfInBounds_toArray, List.set_cons_zero, List.set_cons_succ]
                  refine AnyS.one1 (i := 20) (oi := { dst := some 157, op := .buildSlice 108 1 #[(0, .tmp 156)], type := 108, pos := _, after := _, guard := none }) rfl (by kernel_rfl) rfl (fun Q' K' hK => ?_)
                  go_simp
                  refine hK.out _ _ ⟨⟨(old2 _ _ _ _ z2).trans xH, new2 _ _ _ _ 0, new2 _ _ _ _ 1, new2 _ _ _ _ 2⟩, fun _ => rfl, Or.inl ((old2 _ _ _ _ z1).trans xQ)⟩ (fun hG => ?_)
                  clear hK K' Q'
                  refine AnyS.one1 (i := 21) (oi := { dst := some 158, op := .call { callee := .builtin .append, args := #[.tmp 149, .tmp 157], argTypes := #[108, 108] }, type := 108, pos := _, after := _, guard := none }) rfl (by kernel_rfl) rfl (fun Q' K' hK => ?_)
                  obtain ⟨ti, tz, hti, htz, hts, htb, htc⟩ := info_row (e := 112) (size := 3) (bytes := 48) (by kernel_rfl)
                  refine wp_append_lies _ (.tmp 149) (.tmp 157) 108 rfl (wc.heap.size + 1) 112 ti tz 3 48 Try.underlying108 hti htz hts htb htc (by decide) v k _ rfl (grow_own HR.out.2.2.2.1) ⟨wr.heap.size + 1, 0, none⟩ 1 1 [.string x.1, .string x.2.1, .string x.2.2] rfl rfl (World.news_of_block (heap2 _ _ _)) (by simp [Value.oneCell']) (by decide) (by unfold maxLen; omega) (by omega) (by rw [size2]; omega) _ rfl (fun g cap w1 ho hg hat hlt => ?_)
                  refine hK.out _ _ ⟨⟨(grow_old HR.out.2.2.2.1 HR.out.2.2.2.2 hg _ (by show H < wc.heap.size + 1; omega)).trans xH, (grow_cell HR.out.2.2.2.1 hg 0).trans (World.cell?_alloc_new _ _ _ 0), (grow_cell HR.out.2.2.2.1 hg 1).trans (World.cell?_alloc_new _ _ _ 1), (grow_cell HR.out.2.2.2.1 hg 2).trans (World.cell?_alloc_new _ _ _ 2)⟩, fun _ => rfl, Or.inr rfl⟩ (fun hG => ?_)
                  clear hK K' Q'
                  have wQ : w1.cell? ⟨wc.heap.size, 0, none⟩ = some v := by rw [grow_old HR.out.2.2.2.1 HR.out.2.2.2.2 hg _ (by show wc.heap.size < wc.heap.size + 1; omega)]; exact xQ
                  have vQ : w1.frozen? ⟨wc.heap.size, 0, none⟩ = false := by rw [grow_free HR.out.2.2.2.1 HR.out.2.2.2.2 hg _ (by show wc.heap.size < wc.heap.size + 1; omega)]; exact yQ
                  simp only [Act.put, List.setIfInBounds_toArray, List.set_cons_zero, List.set_cons_succ]
                  refine AnyS.takeB (i := 22) (oi := { dst := some 159, op := _, type := _, pos := _, after := _, guard := none }) (v := _) rfl (by kernel_rfl) (by kernel_rfl) (by kernel_rfl) (fun _ _ _ h => h) (by decide) (by decide) (Or.inl ⟨rfl, fun w' hS => by (try dsimp only at hS); go_simp; try with_reducible rfl⟩) hG (fun hG => ?_)
                  simp only [Act.put, List.setIfInBounds_toArray, List.set_cons_zero, List.set_cons_succ]
                  refine AnyS.takeB (i := 23) (oi := { dst := some 160, op := _, type := _, pos := _, after := _, guard := none }) (v := _) rfl (by kernel_rfl) (by kernel_rfl) (by kernel_rfl) (fun _ _ _ h => h) (by decide) (by decide) (Or.inl ⟨rfl, fun w' hS => by (try dsimp only at hS); go_simp; try with_reducible rfl⟩) hG (fun hG => ?_)
                  simp only [Act.put, List.setIfInBounds_toArray, List.set_cons_zero, List.set_cons_succ]
                  refine AnyS.one1 (i := 24) (oi := { dst := none, op := .store 108 (.tmp 160) (.tmp 158), type := _, pos := _, after := _, guard := none }) rfl (by kernel_rfl) rfl (fun Q' K' hK => ?_)
                  go_simp
                  refine hK.out _ _ ⟨⟨(World.cell?_setCell_far _ _ _ _ (by show wc.heap.size ≠ H; omega)).trans hG.1.1, (World.cell?_setCell_far _ _ _ _ (by show wc.heap.size ≠ wr.heap.size; omega)).trans hG.1.2.1, (World.cell?_setCell_far _ _ _ _ (by show wc.heap.size ≠ wr.heap.size; omega)).trans hG.1.2.2.1, (World.cell?_setCell_far _ _ _ _ (by show wc.heap.size ≠ wr.heap.size; omega)).trans hG.1.2.2.2⟩, fun _ => rfl, Or.inr rfl⟩ (fun hG => ?_)
                  clear hK K' Q'
                  refine AnyS.done (by kernel_rfl) ?_ _
                  clear hG wQ vQ
                  go_wp2
                  go_roundw
                  case rel => exact ⟨k + 1, _, by omega, by go_num, StQ.push HR.out rfl (by omega) (by rw [flat_take row3 HX.out]; exact ho) hg⟩
                  case measure => go_light; simp [intOf]; omega
                · have hlt' : ¬ (k : Int) < (L10 : Int) := by omega
                  go_wp2
                  go_meet
                  case rel =>
                    have hkL : k = e.B.length := by rw [NL10.out]; omega
                    have ho := HR.out.2.2.2.1
                    rw [hkL, List.take_length] at ho
                    exact ⟨_, HR.out.1, ⟨fun h0 => absurd h0 (by rw [NL10.out]; omega), fun _ => ⟨_, v, rfl, by omega, HR.out.2.2.2.2, cell_of_row _ _ _ _ _ _ HR.out.2.1, TripsA.own ho (by omega)⟩⟩, HR.out.2.2.1⟩
            · have hL' : ¬ (0 : Int) < (L10 : Int) := by omega
              go_wp2
              go_meet
              case rel => exact ⟨_, S2.out, ⟨fun _ => rfl, fun k => absurd k (by rw [NL10.out]; exact hL)⟩, Above.refl _ _⟩
        case rest =>
        as_aux_lemma =>
          obtain ⟨bp, R0⟩ := hcut
          have S3 := Hid.mk' R0.out.1
          have QB := Hid.mk' R0.out.2.1
          have QD' := Hid.mk' (QD.out.above R0.out.2.2)
          have QP' := Hid.mk' (QP.out.above R0.out.2.2)
          clear R0 S2 d10 x10 y10 hH10 lo10 n1 n2 n3 n4 n5 n6 hL10 A10 C10 NL10 QD QP
          have QD := QD'
          have QP := QP'
          clear QD' QP'
          -- ████ Tg
          obtain ⟨a12, c12, b12, o12, hv12, A12, C12⟩ : ∃ (a : Option Addr) (c b o : Nat), vT = .slice a e.Tg.length c ∧ Hid (0 < e.Tg.length → a = some ⟨b, o, none⟩ ∧ b < w.heap.size) ∧ Hid (∀ (j : Nat) x, e.Tg[j]? = some x → ElemPairs w b o j x) := by
            obtain ⟨b, o, ⟨a, c, h1, h2, h3⟩, h4⟩ := HH.out.Tg
            exact ⟨a, c, b, o, h1, h2, h4⟩
          obtain ⟨L12, HL12⟩ : ∃ L, e.Tg.length = L := ⟨_, rfl⟩
          have d12 : wc.cell? ⟨N, 12, none⟩ = some (.slice a12 L12 c12) := by rw [S3.out.below.cell (p := ⟨N, 12, none⟩) hNl, HH.out.at12, hv12, HL12]
          have hH12 : H < wc.heap.size := S3.out.lt
          have lo12 : w.heap.size ≤ H := S3.out.lo
          have hL12 : L12 ≤ 1048576 := by rw [← HL12]; exact HSm.out.Tg
          rw [HL12] at A12
          have NL12 := Hid.mk' HL12
          clear HL12 hv12
          go_wp2
          go_loopw [167] (fun i wl => ∃ (k : Nat) (v : Value), k ≤ L12 ∧ i = .int .i64 k ∧ Hid (StH w wc wl H #[.string ⟨#[]⟩, .string ⟨#[]⟩, .string ⟨#[104, 116, 116, 112, 58, 47, 47, 115, 99, 104, 101, 109, 97, 115, 46, 109, 105, 99, 114, 111, 115, 111, 102, 116, 46, 99, 111, 109, 47, 100, 101, 118, 101, 108, 111, 112, 101, 114, 47, 118, 115, 120, 45, 115, 99, 104, 101, 109, 97, 47, 50, 48, 49, 49]⟩, .string ⟨#[50, 46, 48, 46, 48]⟩, .string ⟨#[101, 110, 45, 85, 83]⟩, .string e.s1, .string e.s2, .string e.s0, .string e.s3, dp, .string gT, .string gG, .string e.s5, .string gC, .string e.s6, pp, bp, v, .slice none 0 0] 116 2 v k ((e.Tg.take k).flatMap row2))) (fun i _ => L12 - (intOf i).toNat)
          case atStart =>
            exact ⟨0, .slice none 0 0, Nat.zero_le _, rfl, S3.out, Above.refl _ _, ⟨by simp, .inl ⟨rfl, rfl⟩⟩, Nat.le_refl _⟩
          case round =>
            obtain ⟨k, v, hk, rfl, HR⟩ := hrel
            by_cases hlt : k < L12
            · obtain ⟨rfl, hb12⟩ := A12.out (by omega)
              obtain ⟨x, hx⟩ : ∃ x, e.Tg[k]? = some x := ⟨_, List.getElem?_eq_getElem (by rw [NL12.out]; exact hlt)⟩
              obtain ⟨g0, g1⟩ := (C12.out k x hx).below HR.out.1.below hb12
              have HX := Hid.mk' hx
              clear hx
              have xH : wr.cell? ⟨H, 17, none⟩ = some v := HR.out.1.cell 17
              have yH : wr.frozen? ⟨H, 17, none⟩ = false := HR.out.1.free 17
              have hlt' : (k : Int) < (L12 : Int) := by omega
              have hk0 : (0 : Int) ≤ (k : Int) := by omega
              have z2 : H < wr.heap.size := HR.out.1.lt
              have z3 : wc.heap.size ≤ wr.heap.size := HR.out.2.2.2
              go_wp2
              refine AnyS.begin 15 rfl (g := 11) (i0 := 4) (B := fun w' => w'.cell? ⟨wr.heap.size, 0, none⟩ = some (.string x.1) ∧ w'.cell? ⟨wr.heap.size, 1, none⟩ = some (.string x.2)) (A := fun w' => w'.cell? ⟨H, 17, none⟩ = some v) (by kernel_rfl) ⟨new1 _ _ _ 0, new1 _ _ _ 1⟩ ((old1 _ _ _ z2).trans xH) (fun hG => ?_)
              refine AnyS.takeB (i := 0) (oi := { dst := some 171, op := _, type := _, pos := _, after := _, guard := none }) (v := _) rfl (by kernel_rfl) (by kernel_rfl) (by kernel_rfl) (fun _ _ _ h => h) (by decide) (by decide) (Or.inl ⟨rfl, fun w' hS => by (try dsimp only at hS); go_simp; try with_reducible rfl⟩) hG (fun hG => ?_)
              simp only [Act.put, List.setIfInBounds_toArray, List.set_cons_zero, List.set_cons_succ]
              refine AnyS.takeB (i := 1) (oi := { dst := some 172, op := _, type := _, pos := _, after := _, guard := none }) (v := _) rfl (by kernel_rfl) (by kernel_rfl) (by kernel_rfl) (fun _ _ _ h => h) (by decide) (by decide) (Or.inl ⟨rfl, fun w' hS => by (try dsimp only at hS); go_simp; try with_reducible rfl⟩) hG (fun hG => ?_)
              simp only [Act.put, List.setIfInBounds_toArray, List.set_cons_zero, List.set_cons_succ]
              refine AnyS.takeB (i := 2) (oi := { dst := some 173, op := _, type := _, pos := _, after := _, guard := none }) (v := _) rfl (by kernel_rfl) (by kernel_rfl) (by kernel_rfl) (fun _ _ _ h => h) (by decide) (by decide) (Or.inl ⟨rfl, fun w' hS => by (try dsimp only at hS); go_simp; try with_reducible rfl⟩) hG (fun hG => ?_)
              simp only [Act.put, List.setIfInBounds_toArray, List.set_cons_zero, List.set_cons_succ]
              refine AnyS.takeB (i := 3) (oi := { dst := some 174, op := _, type := _, pos := _, after := _, guard := none }) (v := _) rfl (by kernel_rfl) (by kernel_rfl) (by kernel_rfl) (fun _ _ _ h => h) (by decide) (by decide) (Or.inl ⟨rfl, fun w' hS => by (try dsimp only at hS); go_simp; try with_reducible rfl⟩) hG (fun hG => ?_)
              simp only [Act.put, List.setIfInBounds_toArray, List.set_cons_zero, List.set_cons_succ]
              refine AnyS.takeA (oi := { dst := some 175, op := _, type := _, pos := _, after := _, guard := none }) (v := _) rfl (by kernel_rfl) (by kernel_rfl) (by kernel_rfl) (fun _ _ _ h => h) (by decide) rfl (by kernel_rfl) (Or.inl ⟨rfl, fun w' hS => by (try dsimp only at hS); go_simp; try with_reducible rfl⟩) hG (fun hG => ?_)
              simp only [Act.put, List.setIfInBounds_toArray, List.set_cons_zero, List.set_cons_succ]
              refine AnyS.takeB (i := 5) (oi := { dst := some 176, op := _, type := _, pos := _, after := _, guard := none }) (v := _) rfl (by kernel_rfl) (by kernel_rfl) (by kernel_rfl) (fun _ _ _ h => h) (by decide) (by decide) (Or.inl ⟨rfl, fun w' hS => by (try dsimp only at hS); go_simp; try with_reducible rfl⟩) hG (fun hG => ?_)
              simp only [Act.put, List.setIfInBounds_toArray, List.set_cons_zero, List.set_cons_succ]
              refine AnyS.takeB (i := 6) (oi := { dst := some 177, op := _, type := _, pos := _, after := _, guard := none }) (v := _) rfl (by kernel_rfl) (by kernel_rfl) (by kernel_rfl) (fun _ _ _ h => h) (by decide) (by decide) (Or.inl ⟨rfl, fun w' hS => by (try dsimp only at hS); go_simp; try with_reducible rfl⟩) hG (fun hG => ?_)
              simp only [Act.put, List.setIfInBounds_toArray, List.set_cons_zero, List.set_cons_succ]
              refine AnyS.takeB (i := 7) (oi := { dst := some 178, op := _, type := _, pos := _, after := _, guard := none }) (v := _) rfl (by kernel_rfl) (by kernel_rfl) (by kernel_rfl) (fun _ _ _ h => h) (by decide) (by decide) (Or.inl ⟨rfl, fun w' hS => by (try dsimp only at hS); go_simp; try with_reducible rfl⟩) hG (fun hG => ?_)
              simp only [Act.put, List.setIfInBounds_toArray, List.set_cons_zero, List.set_cons_succ]
              refine AnyS.takeB (i := 8) (oi := { dst := some 179, op := _, type := _, pos := _, after := _, guard := none }) (v := _) rfl (by kernel_rfl) (by kernel_rfl) (by kernel_rfl) (fun _ _ _ h => h) (by decide) (by decide) (Or.inl ⟨rfl, fun w' hS => by (try dsimp only at hS); go_simp; try with_reducible rfl⟩) hG (fun hG => ?_)
              simp only [Act.put, List.setIfInBounds_toArray, List.set_cons_zero, List.set_cons_succ]
              refine AnyS.takeB (i := 9) (oi := { dst := some 180, op := _, type := _, pos := _, after := _, guard := none }) (v := _) rfl (by kernel_rfl) (by kernel_rfl) (by kernel_rfl) (fun _ _ _ h => h) (by decide) (by decide) (Or.inl ⟨rfl, fun w' hS => by (try dsimp only at hS); go_simp; try with_reducible rfl⟩) hG (fun hG => ?_)
              simp only [Act.put, List.setIfInBounds_toArray, List.set_cons_zero, List.set_cons_succ]
              refine AnyS.one1 (i := 10) (oi := { dst := some 181, op := .buildSlice 94 1 #[(0, .tmp 180)], type := 94, pos := _, after := _, guard := none }) rfl (by kernel_rfl) rfl (fun Q' K' hK => ?_)
              go_simp
              refine hK.out _ _ ⟨⟨new2 _ _ _ _ 0, new2 _ _ _ _ 1⟩, fun _ => rfl, Or.inl ((old2 _ _ _ _ z2).trans xH)⟩ (fun hG => ?_)
              clear hK K' Q'
              refine AnyS.one1 (i := 11) (oi := { dst := some 182, op := .call { callee := .builtin .append, args := #[.tmp 175, .tmp 181], argTypes := #[94, 94] }, type := 94, pos := _, after := _, guard := none }) rfl (by kernel_rfl) rfl (fun Q' K' hK => ?_)
              obtain ⟨ti, tz, hti, htz, hts, htb, htc⟩ := info_row (e := 116) (size := 2) (bytes := 32) (by kernel_rfl)
              refine wp_append_lies _ (.tmp 175) (.tmp 181) 94 rfl wc.heap.size 116 ti tz 2 32 Try.underlying94 hti htz hts htb htc (by decide) v k _ rfl (grow_own HR.out.2.2.1) ⟨wr.heap.size + 1, 0, none⟩ 1 1 [.string x.1, .string x.2] rfl rfl (World.news_of_block (heap2 _ _ _)) (by simp [Value.oneCell']) (by decide) (by unfold maxLen; omega) (by omega) (by rw [size2]; omega) _ rfl (fun g cap w1 ho hg hat hlt => ?_)
              refine hK.out _ _ ⟨⟨(grow_cell HR.out.2.2.1 hg 0).trans (World.cell?_alloc_new _ _ _ 0), (grow_cell HR.out.2.2.1 hg 1).trans (World.cell?_alloc_new _ _ _ 1)⟩, fun _ => rfl, Or.inr rfl⟩ (fun hG => ?_)
              clear hK K' Q'
              have wQ : w1.cell? ⟨H, 17, none⟩ = some v := by rw [grow_old HR.out.2.2.1 HR.out.2.2.2 hg _ (by show H < wc.heap.size; omega)]; exact xH
              have vQ : w1.frozen? ⟨H, 17, none⟩ = false := by rw [grow_free HR.out.2.2.1 HR.out.2.2.2 hg _ (by show H < wc.heap.size; omega)]; exact yH
              simp only [Act.put, List.setIfInBounds_toArray, List.set_cons_zero, List.set_cons_succ]
              refine AnyS.takeB (i := 12) (oi := { dst := some 183, op := _, type := _, pos := _, after := _, guard := none }) (v := _) rfl (by kernel_rfl) (by kernel_rfl) (by kernel_rfl) (fun _ _ _ h => h) (by decide) (by decide) (Or.inl ⟨rfl, fun w' hS => by (try dsimp only at hS); go_simp; try with_reducible rfl⟩) hG (fun hG => ?_)
              simp only [Act.put, List.setIfInBounds_toArray, List.set_cons_zero, List.set_cons_succ]
              refine AnyS.takeB (i := 13) (oi := { dst := some 184, op := _, type := _, pos := _, after := _, guard := none }) (v := _) rfl (by kernel_rfl) (by kernel_rfl) (by kernel_rfl) (fun _ _ _ h => h) (by decide) (by decide) (Or.inl ⟨rfl, fun w' hS => by (try dsimp only at hS); go_simp; try with_reducible rfl⟩) hG (fun hG => ?_)
              simp only [Act.put, List.setIfInBounds_toArray, List.set_cons_zero, List.set_cons_succ]
              refine AnyS.one1 (i := 14) (oi := { dst := none, op := .store 94 (.tmp 184) (.tmp 182), type := _, pos := _, after := _, guard := none }) rfl (by kernel_rfl) rfl (fun Q' K' hK => ?_)
              go_simp
              refine hK.out _ _ ⟨⟨(World.cell?_setCell_far _ _ _ _ (by show H ≠ wr.heap.size; omega)).trans hG.1.1, (World.cell?_setCell_far _ _ _ _ (by show H ≠ wr.heap.size; omega)).trans hG.1.2⟩, fun _ => rfl, Or.inr rfl⟩ (fun hG => ?_)
              clear hK K' Q'
              refine AnyS.done (by kernel_rfl) ?_ _
              clear hG wQ vQ
              go_wp2
              go_roundw
              case rel => exact ⟨k + 1, _, by omega, by go_num, StH.push HR.out hH12 17 (by rw [flat_take row2 HX.out]; exact ho) hg⟩
              case measure => go_light; simp [intOf]; omega
            · have hlt' : ¬ (k : Int) < (L12 : Int) := by omega
              have hkL : k = e.Tg.length := by rw [NL12.out]; omega
              have ho := HR.out.2.2.1
              rw [hkL, List.take_length] at ho
              have QI := Hid.mk' (show PairsA (H + 1) wr v e.Tg from PairsA.own ho (by omega))
              have S4 := Hid.mk' HR.out.1
              have QD' := Hid.mk' (QD.out.above HR.out.2.1)
              have QP' := Hid.mk' (QP.out.above HR.out.2.1)
              have QB' := Hid.mk' (QB.out.above HR.out.2.1)
              obtain ⟨vI, rfl⟩ : ∃ y, y = v := ⟨_, rfl⟩
              obtain ⟨wd, rfl⟩ : ∃ y, y = wr := ⟨_, rfl⟩
              have kT : (k : Int) = k := rfl
              clear ho HR hkL kT QD QP QB S3
              -- ████ F
              obtain ⟨a15, c15, b15, o15, hv15, A15, C15⟩ : ∃ (a : Option Addr) (c b o : Nat), vF = .slice a e.F.length c ∧ Hid (0 < e.F.length → a = some ⟨b, o, none⟩ ∧ b < w.heap.size) ∧ Hid (∀ (j : Nat) x, e.F[j]? = some x → ElemFils w b o j x) := by
                obtain ⟨b, o, ⟨a, c, h1, h2, h3⟩, h4, h5⟩ := HH.out.F
                exact ⟨a, c, b, o, h1, h2, h5⟩
              obtain ⟨L15, HL15⟩ : ∃ L, e.F.length = L := ⟨_, rfl⟩
              have d15 : wd.cell? ⟨N, 15, none⟩ = some (.slice a15 L15 c15) := by rw [S4.out.below.cell (p := ⟨N, 15, none⟩) hNl, HH.out.at15, hv15, HL15]
              have hH15 : H < wd.heap.size := S4.out.lt
              have lo15 : w.heap.size ≤ H := S4.out.lo
              have hL15 : L15 ≤ 1048576 := by rw [← HL15]; exact HSm.out.F.1
              rw [HL15] at A15
              have NL15 := Hid.mk' HL15
              clear HL15 hv15
              go_wp2
              go_loopw [191] (fun i wl => ∃ (k : Nat) (v : Value), k ≤ L15 ∧ i = .int .i64 k ∧ Hid (StH w wd wl H #[.string ⟨#[]⟩, .string ⟨#[]⟩, .string ⟨#[104, 116, 116, 112, 58, 47, 47, 115, 99, 104, 101, 109, 97, 115, 46, 109, 105, 99, 114, 111, 115, 111, 102, 116, 46, 99, 111, 109, 47, 100, 101, 118, 101, 108, 111, 112, 101, 114, 47, 118, 115, 120, 45, 115, 99, 104, 101, 109, 97, 47, 50, 48, 49, 49]⟩, .string ⟨#[50, 46, 48, 46, 48]⟩, .string ⟨#[101, 110, 45, 85, 83]⟩, .string e.s1, .string e.s2, .string e.s0, .string e.s3, dp, .string gT, .string gG, .string e.s5, .string gC, .string e.s6, pp, bp, vI, v] 122 3 v (assetsAll (e.F.take k)).length ((assetsAll (e.F.take k)).flatMap rowA))) (fun i _ => L15 - (intOf i).toNat)
              case atStart =>
                exact ⟨0, .slice none 0 0, Nat.zero_le _, rfl, S4.out, Above.refl _ _, ⟨by simp [assetsAll], .inl ⟨rfl, by simp [assetsAll]⟩⟩, Nat.le_refl _⟩
              case round =>
                obtain ⟨k, v, hk, rfl, HR⟩ := hrel
                by_cases hlt : k < L15
                · obtain ⟨rfl, hb15⟩ := A15.out (by omega)
                  obtain ⟨x, hx⟩ : ∃ x, e.F[k]? = some x := ⟨_, List.getElem?_eq_getElem (by rw [NL15.out]; exact hlt)⟩
                  obtain ⟨g0, g1, g2, g3, g4⟩ := (C15.out k x hx).below HR.out.1.below hb15
                  obtain ⟨aA, cA, bA, oA, hvA, AA, CA⟩ : ∃ (a : Option Addr) (c b o : Nat), x.av = .slice a x.assets.length c ∧ Hid (0 < x.assets.length → a = some ⟨b, o, none⟩ ∧ b < w.heap.size) ∧ Hid (∀ (j : Nat) X, x.assets[j]? = some X → w.cell? ⟨b, o + j, none⟩ = some (.string X)) := by
                    obtain ⟨b, o, ⟨a, c, h1, h2, h3⟩, h4⟩ := HH.out.A x (List.mem_of_getElem? hx)
                    exact ⟨a, c, b, o, h1, h2, h4⟩
                  obtain ⟨LA, HLA⟩ : ∃ L, x.assets.length = L := ⟨_, rfl⟩
                  have hLA : LA ≤ 1048576 := by rw [← HLA]; exact HSm.out.F.2 x (List.mem_of_getElem? hx)
                  rw [hvA, HLA] at g3
                  rw [HLA] at AA
                  have NLA := Hid.mk' HLA
                  have HX := Hid.mk' hx
                  clear hx HLA hvA
                  have hlt' : (k : Int) < (L15 : Int) := by omega
                  have hk0 : (0 : Int) ≤ (k : Int) := by omega
                  have hz : wd.heap.size ≤ wr.heap.size := HR.out.2.2.2
                  have hn0 : (assetsAll (e.F.take k)).length ≤ 1099510579200 := by
                    have h1 := assetsAll_le (F := e.F.take k) fun y hy => HSm.out.F.2 y (List.mem_of_mem_take hy)
                    have h2 : (e.F.take k).length ≤ k := by simp; omega
                    omega
                  obtain ⟨wo, rfl⟩ : ∃ y, y = wr := ⟨_, rfl⟩
                  go_wp2
                  go_loopw [198] (fun i wl => ∃ (j : Nat) (v : Value), j ≤ LA ∧ i = .int .i64 j ∧ Hid (StF w wd wl H #[.string ⟨#[]⟩, .string ⟨#[]⟩, .string ⟨#[104, 116, 116, 112, 58, 47, 47, 115, 99, 104, 101, 109, 97, 115, 46, 109, 105, 99, 114, 111, 115, 111, 102, 116, 46, 99, 111, 109, 47, 100, 101, 118, 101, 108, 111, 112, 101, 114, 47, 118, 115, 120, 45, 115, 99, 104, 101, 109, 97, 47, 50, 48, 49, 49]⟩, .string ⟨#[50, 46, 48, 46, 48]⟩, .string ⟨#[101, 110, 45, 85, 83]⟩, .string e.s1, .string e.s2, .string e.s0, .string e.s3, dp, .string gT, .string gG, .string e.s5, .string gC, .string e.s6, pp, bp, vI, v] v ((assetsAll (e.F.take k)).length + j) ((assetsAll (e.F.take k)).flatMap rowA ++ ((assetsOf x).take j).flatMap rowA) wo.heap.size x.path x.addr)) (fun i _ => LA - (intOf i).toNat)
                  case atStart =>
                    exact ⟨0, v, Nat.zero_le _, rfl, Hid.mk' (by simpa using (StF.start HR.out _ _ _ _ _ 142 rfl rfl))⟩
                  case round =>
                    skip
                    skip
                    obtain ⟨j, v, hj, rfl, HR1⟩ := hrel
                    by_cases hjt : j < LA
                    · obtain ⟨rfl, hbA⟩ := AA.out (by omega)
                      obtain ⟨X, hX⟩ : ∃ X, x.assets[j]? = some X := ⟨_, List.getElem?_eq_getElem (by rw [NLA.out]; exact hjt)⟩
                      have gA := CA.out j X hX
                      rw [← HR1.out.1.1.below.cell (p := ⟨bA, oA + j, none⟩) hbA] at gA
                      have HX1 := Hid.mk' hX
                      clear hX
                      have xH := HR1.out.1.1.cell 18
                      have yH := HR1.out.1.1.free 18
                      have z2 := HR1.out.1.1.lt
                      obtain ⟨-, kv, kl, k0, k4⟩ := HR1.out
                      have hjt' : (j : Int) < (LA : Int) := by omega
                      have hj0 : (0 : Int) ≤ (j : Int) := by omega
                      have hz1 := HR1.out.1.2.2.2
                      go_wp2
                      refine AnyS.begin 16 rfl (g := 12) (i0 := 4) (B := fun w' => w'.cell? ⟨wo.heap.size, 0, none⟩ = some (.string x.path) ∧ w'.cell? ⟨wo.heap.size, 4, none⟩ = some (.bool x.addr)) (A := fun w' => w'.cell? ⟨H, 18, none⟩ = some v) (by kernel_rfl) ⟨k0, k4⟩ ((old0 _ _ z2).trans xH) (fun hG => ?_)
                      refine AnyS.takeB (i := 0) (oi := { dst := some 202, op := _, type := _, pos := _, after := _, guard := none }) (v := _) rfl (by kernel_rfl) (by kernel_rfl) (by kernel_rfl) (fun _ _ _ h => h) (by decide) (by decide) (Or.inl ⟨rfl, fun w' hS => by (try dsimp only at hS); go_simp; try with_reducible rfl⟩) hG (fun hG => ?_)
                      simp only [Act.put, List.setIfInBounds_toArray, List.set_cons_zero, List.set_cons_succ]
                      refine AnyS.takeB (i := 1) (oi := { dst := some 203, op := _, type := _, pos := _, after := _, guard := none }) (v := _) rfl (by kernel_rfl) (by kernel_rfl) (by kernel_rfl) (fun _ _ _ h => h) (by decide) (by decide) (Or.inl ⟨rfl, fun w' hS => by (try dsimp only at hS); go_simp; try with_reducible rfl⟩) hG (fun hG => ?_)
                      simp only [Act.put, List.setIfInBounds_toArray, List.set_cons_zero, List.set_cons_succ]
                      refine AnyS.takeB (i := 2) (oi := { dst := some 204, op := _, type := _, pos := _, after := _, guard := none }) (v := _) rfl (by kernel_rfl) (by kernel_rfl) (by kernel_rfl) (fun _ _ _ h => h) (by decide) (by decide) (Or.inl ⟨rfl, fun w' hS => by (try dsimp only at hS); go_simp; try with_reducible rfl⟩) hG (fun hG => ?_)
                      simp only [Act.put, List.setIfInBounds_toArray, List.set_cons_zero, List.set_cons_succ]
                      refine AnyS.takeB (i := 3) (oi := { dst := some 205, op := _, type := _, pos := _, after := _, guard := none }) (v := _) rfl (by kernel_rfl) (by kernel_rfl) (by kernel_rfl) (fun _ _ _ h => h) (by decide) (by decide) (Or.inl ⟨rfl, fun w' hS => by (try dsimp only at hS); go_simp; try with_reducible rfl⟩) hG (fun hG => ?_)
                      simp only [Act.put, List.setIfInBounds_toArray, List.set_cons_zero, List.set_cons_succ]
                      refine AnyS.takeA (oi := { dst := some 206, op := _, type := _, pos := _, after := _, guard := none }) (v := _) rfl (by kernel_rfl) (by kernel_rfl) (by kernel_rfl) (fun _ _ _ h => h) (by decide) rfl (by kernel_rfl) (Or.inl ⟨rfl, fun w' hS => by (try dsimp only at hS); go_simp; try with_reducible rfl⟩) hG (fun hG => ?_)
                      simp only [Act.put, List.setIfInBounds_toArray, List.set_cons_zero, List.set_cons_succ]
                      refine AnyS.takeB (i := 5) (oi := { dst := some 207, op := _, type := _, pos := _, after := _, guard := none }) (v := _) rfl (by kernel_rfl) (by kernel_rfl) (by kernel_rfl) (fun _ _ _ h => h) (by decide) (by decide) (Or.inl ⟨rfl, fun w' hS => by (try dsimp only at hS); go_simp; try with_reducible rfl⟩) hG (fun hG => ?_)
                      simp only [Act.put, List.setIfInBounds_toArray, List.set_cons_zero, List.set_cons_succ]
                      refine AnyS.takeB (i := 6) (oi := { dst := some 208, op := _, type := _, pos := _, after := _, guard := none }) (v := _) rfl (by kernel_rfl) (by kernel_rfl) (by kernel_rfl) (fun _ _ _ h => h) (by decide) (by decide) (Or.inl ⟨rfl, fun w' hS => by (try dsimp only at hS); go_simp; try with_reducible rfl⟩) hG (fun hG => ?_)
                      simp only [Act.put, List.setIfInBounds_toArray, List.set_cons_zero, List.set_cons_succ]
                      refine AnyS.takeB (i := 7) (oi := { dst := some 209, op := _, type := _, pos := _, after := _, guard := none }) (v := _) rfl (by kernel_rfl) (by kernel_rfl) (by kernel_rfl) (fun _ _ _ h => h) (by decide) (by decide) (Or.inl ⟨rfl, fun w' hS => by (try dsimp only at hS); go_simp; try with_reducible rfl⟩) hG (fun hG => ?_)
                      simp only [Act.put, List.setIfInBounds_toArray, List.set_cons_zero, List.set_cons_succ]
                      refine AnyS.takeB (i := 8) (oi := { dst := some 210, op := _, type := _, pos := _, after := _, guard := none }) (v := _) rfl (by kernel_rfl) (by kernel_rfl) (by kernel_rfl) (fun _ _ _ h => h) (by decide) (by decide) (Or.inl ⟨rfl, fun w' hS => by (try dsimp only at hS); go_simp; try with_reducible rfl⟩) hG (fun hG => ?_)
                      simp only [Act.put, List.setIfInBounds_toArray, List.set_cons_zero, List.set_cons_succ]
                      refine AnyS.takeB (i := 9) (oi := { dst := some 211, op := _, type := _, pos := _, after := _, guard := none }) (v := _) rfl (by kernel_rfl) (by kernel_rfl) (by kernel_rfl) (fun _ _ _ h => h) (by decide) (by decide) (Or.inl ⟨rfl, fun w' hS => by (try dsimp only at hS); go_simp; try with_reducible rfl⟩) hG (fun hG => ?_)
                      simp only [Act.put, List.setIfInBounds_toArray, List.set_cons_zero, List.set_cons_succ]
                      refine AnyS.takeB (i := 10) (oi := { dst := some 212, op := _, type := _, pos := _, after := _, guard := none }) (v := _) rfl (by kernel_rfl) (by kernel_rfl) (by kernel_rfl) (fun _ _ _ h => h) (by decide) (by decide) (Or.inl ⟨rfl, fun w' hS => by (try dsimp only at hS); go_simp; try with_reducible rfl⟩) hG (fun hG => ?_)
                      simp only [Act.put, List.setIfInBounds_toArray, List.set_cons_zero, List.set_cons_succ]
                      refine AnyS.one1 (i := 11) (oi := { dst := some 213, op := .buildSlice 95 1 #[(0, .tmp 212)], type := 95, pos := _, after := _, guard := none }) rfl (by kernel_rfl) rfl (fun Q' K' hK => ?_)
                      go_simp
                      refine hK.out _ _ ⟨⟨(old1 _ _ _ kl).trans k0, (old1 _ _ _ kl).trans k4⟩, fun _ => rfl, Or.inl ((old1 _ _ _ z2).trans xH)⟩ (fun hG => ?_)
                      clear hK K' Q'
                      refine AnyS.one1 (i := 12) (oi := { dst := some 214, op := .call { callee := .builtin .append, args := #[.tmp 206, .tmp 213], argTypes := #[95, 95] }, type := 95, pos := _, after := _, guard := none }) rfl (by kernel_rfl) rfl (fun Q' K' hK => ?_)
                      obtain ⟨ti, tz, hti, htz, hts, htb, htc⟩ := info_row (e := 122) (size := 3) (bytes := 40) (by kernel_rfl)
                      refine wp_append_lies _ (.tmp 206) (.tmp 213) 95 rfl wd.heap.size 122 ti tz 3 40 Try.underlying95 hti htz hts htb htc (by decide) v ((assetsAll (e.F.take k)).length + j) _ rfl (grow_own1 HR1.out.1.2.2.1) ⟨wr.heap.size, 0, none⟩ 1 1 [.string X, .string x.path, .bool x.addr] rfl rfl (World.news_of_block (heap1 _ _)) (by simp [Value.oneCell']) (by decide) (by unfold maxLen; omega) (by omega) (by rw [size1]; omega) _ rfl (fun g cap w1 ho hg hat hlt => ?_)
                      refine hK.out _ _ ⟨⟨(grow_cell1 hg _ kl kv).trans k0, (grow_cell1 hg _ kl kv).trans k4⟩, fun _ => rfl, Or.inr rfl⟩ (fun hG => ?_)
                      clear hK K' Q'
                      have wQ : w1.cell? ⟨H, 18, none⟩ = some v := by rw [grow_old1 HR1.out.1.2.2.1 HR1.out.1.2.2.2 hg _ (by show H < wd.heap.size; omega)]; exact xH
                      have vQ : w1.frozen? ⟨H, 18, none⟩ = false := by rw [grow_free1 HR1.out.1.2.2.1 HR1.out.1.2.2.2 hg _ (by show H < wd.heap.size; omega)]; exact yH
                      simp only [Act.put, List.setIfInBounds_toArray, List.set_cons_zero, List.set_cons_succ]
                      refine AnyS.takeB (i := 13) (oi := { dst := some 215, op := _, type := _, pos := _, after := _, guard := none }) (v := _) rfl (by kernel_rfl) (by kernel_rfl) (by kernel_rfl) (fun _ _ _ h => h) (by decide) (by decide) (Or.inl ⟨rfl, fun w' hS => by (try dsimp only at hS); go_simp; try with_reducible rfl⟩) hG (fun hG => ?_)
                      simp only [Act.put, List.setIfInBounds_toArray, List.set_cons_zero, List.set_cons_succ]
                      refine AnyS.takeB (i := 14) (oi := { dst := some 216, op := _, type := _, pos := _, after := _, guard := none }) (v := _) rfl (by kernel_rfl) (by kernel_rfl) (by kernel_rfl) (fun _ _ _ h => h) (by decide) (by decide) (Or.inl ⟨rfl, fun w' hS => by (try dsimp only at hS); go_simp; try with_reducible rfl⟩) hG (fun hG => ?_)
                      simp only [Act.put, List.setIfInBounds_toArray, List.set_cons_zero, List.set_cons_succ]
                      refine AnyS.one1 (i := 15) (oi := { dst := none, op := .store 95 (.tmp 216) (.tmp 214), type := _, pos := _, after := _, guard := none }) rfl (by kernel_rfl) rfl (fun Q' K' hK => ?_)
                      go_simp
                      refine hK.out _ _ ⟨⟨(World.cell?_setCell_far _ _ _ _ (by show H ≠ wo.heap.size; omega)).trans hG.1.1, (World.cell?_setCell_far _ _ _ _ (by show H ≠ wo.heap.size; omega)).trans hG.1.2⟩, fun _ => rfl, Or.inr rfl⟩ (fun hG => ?_)
                      clear hK K' Q'
                      refine AnyS.done (by kernel_rfl) ?_ _
                      clear hG wQ vQ
                      go_wp2
                      go_roundw
                      case rel => exact ⟨j + 1, _, by omega, by go_num, StF.push HR1.out hH15 hz 18 (by rw [flat_take rowA (assetsOf_get HX1.out), ← List.append_assoc]; exact ho) hg hat (.inl (by rw [size1]; omega))⟩
                      case measure => go_light; simp [intOf]; omega
                    · have hjt' : ¬ (j : Int) < (LA : Int) := by omega
                      have hjL : j = (assetsOf x).length := by rw [assetsOf_len, NLA.out]; omega
                      have hS : Hid (StH w wd wr H #[.string ⟨#[]⟩, .string ⟨#[]⟩, .string ⟨#[104, 116, 116, 112, 58, 47, 47, 115, 99, 104, 101, 109, 97, 115, 46, 109, 105, 99, 114, 111, 115, 111, 102, 116, 46, 99, 111, 109, 47, 100, 101, 118, 101, 108, 111, 112, 101, 114, 47, 118, 115, 120, 45, 115, 99, 104, 101, 109, 97, 47, 50, 48, 49, 49]⟩, .string ⟨#[50, 46, 48, 46, 48]⟩, .string ⟨#[101, 110, 45, 85, 83]⟩, .string e.s1, .string e.s2, .string e.s0, .string e.s3, dp, .string gT, .string gG, .string e.s5, .string gC, .string e.s6, pp, bp, vI, v] 122 3 v (assetsAll (e.F.take (k + 1))).length ((assetsAll (e.F.take (k + 1))).flatMap rowA)) := by
                        have h1 := HR1.out.1
                        rw [assetsAll_take HX.out, List.length_append, List.flatMap_append]
                        rw [hjL, List.take_length] at h1
                        exact h1
                      clear hjL HR1
                      go_wp2
                      go_roundw
                      case rel => exact ⟨k + 1, _, by omega, by go_num, hS.out⟩
                      case measure => go_light; simp [intOf]; omega
                · have hlt' : ¬ (k : Int) < (L15 : Int) := by omega
                  have hkL : k = e.F.length := by rw [NL15.out]; omega
                  have ho := HR.out.2.2.1
                  rw [hkL, List.take_length] at ho
                  have QA := Hid.mk' (show AstsA (H + 1) wr v (assetsAll e.F) from AstsA.own ho (by omega))
                  clear ho hkL
                  go_wp2
                  go_ret
                  refine ⟨H, dp, pp, bp, vI, v, rfl, ?_, ?_, QP'.out.above HR.out.2.1, QB'.out.above HR.out.2.1, QI.out.above HR.out.2.1, QA.out⟩
                  · have hM := HR.out.1
                    rw [← HGT.out, ← HGG.out, ← HGC.out] at hM
                    exact hM
                  · rw [H4.out]; exact QD'.out.above HR.out.2.1
end Go.Proofs.Qxb6616617a.W
