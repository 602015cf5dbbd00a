/-
  vsixB1ExtOver answers some bool and turns nothing.
-/
import Derived.Test.Qxb6616617aShapes
import Derived.Deep.Light
import Derived.Deep.RegionWith
namespace Go.Proofs.Qxb6616617a.W
open Go.ChangeShapes Go.WideShapes Go.ChangeAt Go.RowKit
set_option linter.unusedVariables false

def IsBool (x : Ending) : Prop := ∃ b, x = .returned (.bool b)
theorem IsBool.mk (b : Bool) : IsBool (.returned (.bool b)) := ⟨b, rfl⟩

set_option maxRecDepth 100000 in
set_option maxHeartbeats 8000000 in
theorem over21 (e : E) (N : Nat) (w : World) (h : e.Lies w) (hwf : e.Wf) (hN : ∀ i, i < 16 → w.cell? ⟨N, i, none⟩ = e.cells[i]?) :
    Calls Try.prog 21 #[.pointer (some ⟨N, 0, none⟩)] w fun x w' => IsBool x ∧ w' = w := by
  have k7 : Hid (∀ t : Int, 0 ≤ t → t ≤ 1500000 → Calls Try.prog 15 #[.int .i64 t, e.v7] w fun e w' => (∃ r : Int, e = .returned (.int .i64 r) ∧ 0 ≤ r ∧ r ≤ 1500000) ∧ w' = w) := fun t h0 h1 => addStrs t _ _ w h0 h1 hwf.T.1 hwf.T.2 h.T.strs
  have k8 : Hid (∀ t : Int, 0 ≤ t → t ≤ 1500000 → Calls Try.prog 15 #[.int .i64 t, e.v8] w fun e w' => (∃ r : Int, e = .returned (.int .i64 r) ∧ 0 ≤ r ∧ r ≤ 1500000) ∧ w' = w) := fun t h0 h1 => addStrs t _ _ w h0 h1 hwf.G.1 hwf.G.2 h.G.strs
  have k11 : Hid (∀ t : Int, 0 ≤ t → t ≤ 1500000 → Calls Try.prog 15 #[.int .i64 t, e.v11] w fun e w' => (∃ r : Int, e = .returned (.int .i64 r) ∧ 0 ≤ r ∧ r ≤ 1500000) ∧ w' = w) := fun t h0 h1 => addStrs t _ _ w h0 h1 hwf.C.1 hwf.C.2 h.C.strs
  have k14 : Hid (∀ t : Int, 0 ≤ t → t ≤ 1500000 → Calls Try.prog 15 #[.int .i64 t, e.v14] w fun e w' => (∃ r : Int, e = .returned (.int .i64 r) ∧ 0 ≤ r ∧ r ≤ 1500000) ∧ w' = w) := fun t h0 h1 => addStrs t _ _ w h0 h1 hwf.M.1 hwf.M.2 h.M.strs
  obtain ⟨b9, o9, ⟨a9, c9, hv9, ha9, hn9⟩, hc9⟩ := h.P
  have hm9 : e.P.length ≤ 9223372036854775807 := by have := hwf.P.1; unfold maxLen at this; omega
  obtain ⟨L9, HL9⟩ : ∃ L, e.P.length = L := ⟨_, rfl⟩
  rw [HL9] at hv9 ha9 hm9
  have A9 := Hid.mk' ha9
  have C9 := Hid.mk' hc9
  have N9 := Hid.mk' HL9
  clear ha9 hc9 hn9 HL9
  obtain ⟨b10, o10, ⟨a10, c10, hv10, ha10, hn10⟩, hc10⟩ := h.B
  have hm10 : e.B.length ≤ 9223372036854775807 := by have := hwf.B.1; unfold maxLen at this; omega
  obtain ⟨L10, HL10⟩ : ∃ L, e.B.length = L := ⟨_, rfl⟩
  rw [HL10] at hv10 ha10 hm10
  have A10 := Hid.mk' ha10
  have C10 := Hid.mk' hc10
  have N10 := Hid.mk' HL10
  clear ha10 hc10 hn10 HL10
  obtain ⟨b12, o12, ⟨a12, c12, hv12, ha12, hn12⟩, hc12⟩ := h.Tg
  have hm12 : e.Tg.length ≤ 9223372036854775807 := by have := hwf.Tg.1; unfold maxLen at this; omega
  obtain ⟨L12, HL12⟩ : ∃ L, e.Tg.length = L := ⟨_, rfl⟩
  rw [HL12] at hv12 ha12 hm12
  have A12 := Hid.mk' ha12
  have C12 := Hid.mk' hc12
  have N12 := Hid.mk' HL12
  clear ha12 hc12 hn12 HL12
  obtain ⟨b13, o13, ⟨a13, c13, hv13, ha13, hn13⟩, hc13⟩ := h.I
  have hm13 : e.I.length ≤ 9223372036854775807 := by have := hwf.I.1; unfold maxLen at this; omega
  obtain ⟨L13, HL13⟩ : ∃ L, e.I.length = L := ⟨_, rfl⟩
  rw [HL13] at hv13 ha13 hm13
  have A13 := Hid.mk' ha13
  have C13 := Hid.mk' hc13
  have N13 := Hid.mk' HL13
  clear ha13 hc13 hn13 HL13
  obtain ⟨b15, o15, ⟨a15, c15, hv15, ha15, hn15⟩, hc15⟩ := h.F
  have hm15 : e.F.length ≤ 9223372036854775807 := by have := hwf.F.1; unfold maxLen at this; omega
  obtain ⟨L15, HL15⟩ : ∃ L, e.F.length = L := ⟨_, rfl⟩
  rw [HL15] at hv15 ha15 hm15
  have A15 := Hid.mk' ha15
  have C15 := Hid.mk' hc15
  have N15 := Hid.mk' HL15
  clear ha15 hc15 hn15 HL15
  have d0 : w.cell? ⟨N, 0, none⟩ = some (.string e.s0) := hN 0 (by omega)
  have d1 : w.cell? ⟨N, 1, none⟩ = some (.string e.s1) := hN 1 (by omega)
  have d2 : w.cell? ⟨N, 2, none⟩ = some (.string e.s2) := hN 2 (by omega)
  have d3 : w.cell? ⟨N, 3, none⟩ = some (.string e.s3) := hN 3 (by omega)
  have d4 : w.cell? ⟨N, 4, none⟩ = some (.string e.s4) := hN 4 (by omega)
  have d5 : w.cell? ⟨N, 5, none⟩ = some (.string e.s5) := hN 5 (by omega)
  have d6 : w.cell? ⟨N, 6, none⟩ = some (.string e.s6) := hN 6 (by omega)
  have d7 : w.cell? ⟨N, 7, none⟩ = some (e.v7) := hN 7 (by omega)
  have d8 : w.cell? ⟨N, 8, none⟩ = some (e.v8) := hN 8 (by omega)
  have d9 : w.cell? ⟨N, 9, none⟩ = some (e.v9) := hN 9 (by omega)
  have d10 : w.cell? ⟨N, 10, none⟩ = some (e.v10) := hN 10 (by omega)
  have d11 : w.cell? ⟨N, 11, none⟩ = some (e.v11) := hN 11 (by omega)
  have d12 : w.cell? ⟨N, 12, none⟩ = some (e.v12) := hN 12 (by omega)
  have d13 : w.cell? ⟨N, 13, none⟩ = some (e.v13) := hN 13 (by omega)
  have d14 : w.cell? ⟨N, 14, none⟩ = some (e.v14) := hN 14 (by omega)
  have d15 : w.cell? ⟨N, 15, none⟩ = some (e.v15) := hN 15 (by omega)
  have hs0 := hwf.s0
  have hs1 := hwf.s1
  have hs2 := hwf.s2
  have hs3 := hwf.s3
  have hs4 := hwf.s4
  have hs5 := hwf.s5
  have hs6 := hwf.s6
  have HW := Hid.mk' hwf
  have HH := Hid.mk' h
  rw [hv9] at d9
  rw [hv10] at d10
  rw [hv12] at d12
  rw [hv13] at d13
  rw [hv15] at d15
  clear h hwf hN hv9 hv10 hv12 hv13 hv15
  generalize e.s0 = s0 at *
  generalize e.s1 = s1 at *
  generalize e.s2 = s2 at *
  generalize e.s3 = s3 at *
  generalize e.s4 = s4 at *
  generalize e.s5 = s5 at *
  generalize e.s6 = s6 at *
  generalize e.v7 = v7 at *
  generalize e.v8 = v8 at *
  generalize e.v11 = v11 at *
  generalize e.v14 = v14 at *
  go_enter Try.func21, Try.ntmps21
  go_wp2_with (first | (go_at_call 14; refine (addStr _ _ _ (by omega) (by omega) (by assumption)).mono ?_; rintro e w' ⟨⟨r, rfl, h0, h1⟩, hw⟩; obtain rfl := hw.symm) | (go_at_call_of 15 v7; refine (k7.out _ (by omega) (by omega)).mono ?_; rintro e w' ⟨⟨r, rfl, h0, h1⟩, hw⟩; obtain rfl := hw.symm) | (go_at_call_of 15 v8; refine (k8.out _ (by omega) (by omega)).mono ?_; rintro e w' ⟨⟨r, rfl, h0, h1⟩, hw⟩; obtain rfl := hw.symm) | (go_at_call_of 15 v11; refine (k11.out _ (by omega) (by omega)).mono ?_; rintro e w' ⟨⟨r, rfl, h0, h1⟩, hw⟩; obtain rfl := hw.symm) | (go_at_call_of 15 v14; refine (k14.out _ (by omega) (by omega)).mono ?_; rintro e w' ⟨⟨r, rfl, h0, h1⟩, hw⟩; obtain rfl := hw.symm))
  any_goals (go_ret; exact ⟨IsBool.mk _, rfl⟩)
  go_loop [3, 4] (fun z i => ∃ (k : Nat) (r : Int), k ≤ L9 ∧ i = .int .i64 k ∧ z = .int .i64 r ∧ 0 ≤ r ∧ r ≤ 1048576) (fun _ i => L9 - (intOf i).toNat)
  case atStart => go_light; exact ⟨0, _, Nat.zero_le _, rfl, rfl, by omega, by omega⟩
  case round =>
    obtain ⟨k, r, hk, rfl, rfl, hr0, hr1⟩ := hrel
    by_cases hlt : k < L9
    · obtain ⟨rfl, hb⟩ := A9.out (by omega)
      obtain ⟨x, hx⟩ : ∃ x, e.P[k]? = some x := ⟨_, List.getElem?_eq_getElem (by rw [N9.out]; exact hlt)⟩
      have g := C9.out k x hx
      have hwx := HW.out.P.2 x (List.mem_of_getElem? hx)
      clear hx
      obtain ⟨g1, g2⟩ := g
      obtain ⟨q1, q2⟩ := hwx
      go_wp2_with (go_at_call 14; refine (addStr _ _ _ (by omega) (by omega) (by assumption)).mono ?_; rintro e w' ⟨⟨r, rfl, h0, h1⟩, hw⟩; obtain rfl := hw.symm)
      any_goals (go_ret; exact ⟨IsBool.mk _, rfl⟩)
      go_round
      case rel => go_light; exact ⟨k + 1, _, by omega, by go_num, rfl, by omega, by omega⟩
      case measure => go_light; simp [intOf]; omega
    · as_aux_lemma =>
        go_wp2
        go_loop [3, 5] (fun z i => ∃ (k : Nat) (r : Int), k ≤ L10 ∧ i = .int .i64 k ∧ z = .int .i64 r ∧ 0 ≤ r ∧ r ≤ 1048576) (fun _ i => L10 - (intOf i).toNat)
        case atStart => go_light; exact ⟨0, _, Nat.zero_le _, rfl, rfl, by omega, by omega⟩
        case round =>
          obtain ⟨k, r, hk, rfl, rfl, hr0, hr1⟩ := hrel
          by_cases hlt : k < L10
          · obtain ⟨rfl, hb⟩ := A10.out (by omega)
            obtain ⟨x, hx⟩ : ∃ x, e.B[k]? = some x := ⟨_, List.getElem?_eq_getElem (by rw [N10.out]; exact hlt)⟩
            have g := C10.out k x hx
            have hwx := HW.out.B.2 x (List.mem_of_getElem? hx)
            clear hx
            obtain ⟨g1, g2, g3⟩ := g
            obtain ⟨q1, q2, q3⟩ := hwx
            go_wp2_with (go_at_call 14; refine (addStr _ _ _ (by omega) (by omega) (by assumption)).mono ?_; rintro e w' ⟨⟨r, rfl, h0, h1⟩, hw⟩; obtain rfl := hw.symm)
            any_goals (go_ret; exact ⟨IsBool.mk _, rfl⟩)
            go_round
            case rel => go_light; exact ⟨k + 1, _, by omega, by go_num, rfl, by omega, by omega⟩
            case measure => go_light; simp [intOf]; omega
          · as_aux_lemma =>
              go_wp2
              go_loop [3, 6] (fun z i => ∃ (k : Nat) (r : Int), k ≤ L12 ∧ i = .int .i64 k ∧ z = .int .i64 r ∧ 0 ≤ r ∧ r ≤ 1048576) (fun _ i => L12 - (intOf i).toNat)
              case atStart => go_light; exact ⟨0, _, Nat.zero_le _, rfl, rfl, by omega, by omega⟩
              case round =>
                obtain ⟨k, r, hk, rfl, rfl, hr0, hr1⟩ := hrel
                by_cases hlt : k < L12
                · obtain ⟨rfl, hb⟩ := A12.out (by omega)
                  obtain ⟨x, hx⟩ : ∃ x, e.Tg[k]? = some x := ⟨_, List.getElem?_eq_getElem (by rw [N12.out]; exact hlt)⟩
                  have g := C12.out k x hx
                  have hwx := HW.out.Tg.2 x (List.mem_of_getElem? hx)
                  clear hx
                  obtain ⟨g1, g2⟩ := g
                  obtain ⟨q1, q2⟩ := hwx
                  go_wp2_with (go_at_call 14; refine (addStr _ _ _ (by omega) (by omega) (by assumption)).mono ?_; rintro e w' ⟨⟨r, rfl, h0, h1⟩, hw⟩; obtain rfl := hw.symm)
                  any_goals (go_ret; exact ⟨IsBool.mk _, rfl⟩)
                  go_round
                  case rel => go_light; exact ⟨k + 1, _, by omega, by go_num, rfl, by omega, by omega⟩
                  case measure => go_light; simp [intOf]; omega
                · as_aux_lemma =>
                    go_wp2
                    go_loop [3, 7] (fun z i => ∃ (k : Nat) (r : Int), k ≤ L13 ∧ i = .int .i64 k ∧ z = .int .i64 r ∧ 0 ≤ r ∧ r ≤ 1048576) (fun _ i => L13 - (intOf i).toNat)
                    case atStart => go_light; exact ⟨0, _, Nat.zero_le _, rfl, rfl, by omega, by omega⟩
                    case round =>
                      obtain ⟨k, r, hk, rfl, rfl, hr0, hr1⟩ := hrel
                      by_cases hlt : k < L13
                      · obtain ⟨rfl, hb⟩ := A13.out (by omega)
                        obtain ⟨x, hx⟩ : ∃ x, e.I[k]? = some x := ⟨_, List.getElem?_eq_getElem (by rw [N13.out]; exact hlt)⟩
                        have g := C13.out k x hx
                        have hwx := HW.out.I.2 x (List.mem_of_getElem? hx)
                        clear hx
                        obtain ⟨g1, g2, g3⟩ := g
                        obtain ⟨q1, q2⟩ := hwx
                        by_cases hs : x.some' = true
                        · obtain ⟨hl, d0', d1', d2', d3'⟩ := g3 hs
                          have g2' : w.cell? ⟨b13, o13 + k * 2 + 1, none⟩ = some (.pointer (some ⟨x.rb, x.ro, none⟩)) := by rw [g2]; simp [Inst.ptr, hs]
                          obtain ⟨q3, q4⟩ := q2 hs
                          clear g2 g3 q2 hs
                          go_wp2_with (go_at_call 14; refine (addStr _ _ _ (by omega) (by omega) (by assumption)).mono ?_; rintro e w' ⟨⟨r, rfl, h0, h1⟩, hw⟩; obtain rfl := hw.symm)
                          any_goals (go_ret; exact ⟨IsBool.mk _, rfl⟩)
                          go_round
                          case rel => go_light; exact ⟨k + 1, _, by omega, by go_num, rfl, by omega, by omega⟩
                          case measure => go_light; simp [intOf]; omega
                        · have g2' : w.cell? ⟨b13, o13 + k * 2 + 1, none⟩ = some (.pointer none) := by rw [g2]; simp [Inst.ptr, hs]
                          clear g2 g3 q2 hs
                          go_wp2_with (go_at_call 14; refine (addStr _ _ _ (by omega) (by omega) (by assumption)).mono ?_; rintro e w' ⟨⟨r, rfl, h0, h1⟩, hw⟩; obtain rfl := hw.symm)
                          any_goals (go_ret; exact ⟨IsBool.mk _, rfl⟩)
                          go_round
                          case rel => go_light; exact ⟨k + 1, _, by omega, by go_num, rfl, by omega, by omega⟩
                          case measure => go_light; simp [intOf]; omega
                      · as_aux_lemma =>
                          go_wp2
                          go_loop [3, 9] (fun z i => ∃ (k : Nat) (r : Int), k ≤ L15 ∧ i = .int .i64 k ∧ z = .int .i64 r ∧ 0 ≤ r ∧ r ≤ 1048576) (fun _ i => L15 - (intOf i).toNat)
                          case atStart => go_light; exact ⟨0, _, Nat.zero_le _, rfl, rfl, by omega, by omega⟩
                          case round =>
                            obtain ⟨k, r, hk, rfl, rfl, hr0, hr1⟩ := hrel
                            by_cases hlt : k < L15
                            · obtain ⟨rfl, hb⟩ := A15.out (by omega)
                              obtain ⟨x, hx⟩ : ∃ x, e.F[k]? = some x := ⟨_, List.getElem?_eq_getElem (by rw [N15.out]; exact hlt)⟩
                              have g := C15.out k x hx
                              have hwx := HW.out.F.2 x (List.mem_of_getElem? hx)
                              clear hx
                              obtain ⟨g0, g1, g2, g3, g4, g5⟩ := g
                              obtain ⟨q0, q1, q2, q3, q4⟩ := hwx
                              have kA : Hid (∀ t : Int, 0 ≤ t → t ≤ 1500000 → Calls Try.prog 15 #[.int .i64 t, x.av] w fun e w' => (∃ r : Int, e = .returned (.int .i64 r) ∧ 0 ≤ r ∧ r ≤ 1500000) ∧ w' = w) := fun t h0 h1 => addStrs t _ _ w h0 h1 q3 q4 g5.strs
                              clear g5 q3 q4
                              generalize x.av = vA at *
                              go_wp2_with (first | (go_at_call 14; refine (addStr _ _ _ (by omega) (by omega) (by assumption)).mono ?_; rintro e w' ⟨⟨r, rfl, h0, h1⟩, hw⟩; obtain rfl := hw.symm) | (go_at_call 31; refine (addBytes _ _ _ _ _ (by omega) (by omega) (by assumption)).mono ?_; rintro e w' ⟨⟨r, rfl, h0, h1⟩, hw⟩; obtain rfl := hw.symm) | (go_at_call 15; refine (kA.out _ (by omega) (by omega)).mono ?_; rintro e w' ⟨⟨r, rfl, h0, h1⟩, hw⟩; obtain rfl := hw.symm))
                              any_goals (go_ret; exact ⟨IsBool.mk _, rfl⟩)
                              go_round
                              case rel => go_light; exact ⟨k + 1, _, by omega, by go_num, rfl, by omega, by omega⟩
                              case measure => go_light; simp [intOf]; omega
                            · as_aux_lemma =>
                                go_wp2
                                go_ret
                                exact ⟨IsBool.mk _, rfl⟩
end Go.Proofs.Qxb6616617a.W
