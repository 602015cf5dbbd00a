/-
  The look at the lengths.
-/
import Derived.Test.Qxb6616617aShapes
import Derived.Deep.Light
namespace Go.Proofs.Qxb6616617a.W
open Go.ChangeShapes Go.WideShapes Go.ChangeAt Go.RowKit
set_option linter.unusedVariables false

set_option maxRecDepth 100000 in
set_option maxHeartbeats 8000000 in
theorem bytes25 (e : E) (c : Int) (w : World) (h : e.Lies w) (hwf : e.Wf) :
    Calls Try.prog 25 #[.agg e.cells, .int .i64 c] w fun x w' => Told e x ∧ Below w.heap.size w w' := by
  obtain ⟨b7, o7, ⟨a7, c7, hv7, ha7, hn7⟩, hc7⟩ := h.T
  have hm7 : e.T.length ≤ 9223372036854775807 := by have := hwf.T.1; unfold maxLen at this; omega
  obtain ⟨L7, HL7⟩ : ∃ L, e.T.length = L := ⟨_, rfl⟩
  rw [HL7] at hv7 ha7 hm7
  have A7 := Hid.mk' ha7
  have C7 := Hid.mk' hc7
  have N7 := Hid.mk' HL7
  clear ha7 hc7 hn7 HL7
  obtain ⟨b8, o8, ⟨a8, c8, hv8, ha8, hn8⟩, hc8⟩ := h.G
  have hm8 : e.G.length ≤ 9223372036854775807 := by have := hwf.G.1; unfold maxLen at this; omega
  obtain ⟨L8, HL8⟩ : ∃ L, e.G.length = L := ⟨_, rfl⟩
  rw [HL8] at hv8 ha8 hm8
  have A8 := Hid.mk' ha8
  have C8 := Hid.mk' hc8
  have N8 := Hid.mk' HL8
  clear ha8 hc8 hn8 HL8
  obtain ⟨b9, o9, ⟨a9, c9, hv9, ha9, hn9⟩, hc9⟩ := h.P
  have hm9 : e.P.length ≤ 9223372036854775807 := by have := hwf.P.1; unfold maxLen at this; omega
  obtain ⟨L9, HL9⟩ : ∃ L, e.P.length = L := ⟨_, rfl⟩
  rw [HL9] at hv9 ha9 hm9
  have A9 := Hid.mk' ha9
  have C9 := Hid.mk' hc9
  have N9 := Hid.mk' HL9
  clear ha9 hc9 hn9 HL9
  obtain ⟨b10, o10, ⟨a10, c10, hv10, ha10, hn10⟩, hc10⟩ := h.B
  have hm10 : e.B.length ≤ 9223372036854775807 := by have := hwf.B.1; unfold maxLen at this; omega
  obtain ⟨L10, HL10⟩ : ∃ L, e.B.length = L := ⟨_, rfl⟩
  rw [HL10] at hv10 ha10 hm10
  have A10 := Hid.mk' ha10
  have C10 := Hid.mk' hc10
  have N10 := Hid.mk' HL10
  clear ha10 hc10 hn10 HL10
  obtain ⟨b11, o11, ⟨a11, c11, hv11, ha11, hn11⟩, hc11⟩ := h.C
  have hm11 : e.C.length ≤ 9223372036854775807 := by have := hwf.C.1; unfold maxLen at this; omega
  obtain ⟨L11, HL11⟩ : ∃ L, e.C.length = L := ⟨_, rfl⟩
  rw [HL11] at hv11 ha11 hm11
  have A11 := Hid.mk' ha11
  have C11 := Hid.mk' hc11
  have N11 := Hid.mk' HL11
  clear ha11 hc11 hn11 HL11
  obtain ⟨b12, o12, ⟨a12, c12, hv12, ha12, hn12⟩, hc12⟩ := h.Tg
  have hm12 : e.Tg.length ≤ 9223372036854775807 := by have := hwf.Tg.1; unfold maxLen at this; omega
  obtain ⟨L12, HL12⟩ : ∃ L, e.Tg.length = L := ⟨_, rfl⟩
  rw [HL12] at hv12 ha12 hm12
  have A12 := Hid.mk' ha12
  have C12 := Hid.mk' hc12
  have N12 := Hid.mk' HL12
  clear ha12 hc12 hn12 HL12
  obtain ⟨b13, o13, ⟨a13, c13, hv13, ha13, hn13⟩, hc13⟩ := h.I
  have hm13 : e.I.length ≤ 9223372036854775807 := by have := hwf.I.1; unfold maxLen at this; omega
  obtain ⟨L13, HL13⟩ : ∃ L, e.I.length = L := ⟨_, rfl⟩
  rw [HL13] at hv13 ha13 hm13
  have A13 := Hid.mk' ha13
  have C13 := Hid.mk' hc13
  have N13 := Hid.mk' HL13
  clear ha13 hc13 hn13 HL13
  obtain ⟨b14, o14, ⟨a14, c14, hv14, ha14, hn14⟩, hc14⟩ := h.M
  have hm14 : e.M.length ≤ 9223372036854775807 := by have := hwf.M.1; unfold maxLen at this; omega
  obtain ⟨L14, HL14⟩ : ∃ L, e.M.length = L := ⟨_, rfl⟩
  rw [HL14] at hv14 ha14 hm14
  have A14 := Hid.mk' ha14
  have C14 := Hid.mk' hc14
  have N14 := Hid.mk' HL14
  clear ha14 hc14 hn14 HL14
  obtain ⟨b15, o15, ⟨a15, c15, hv15, ha15, hn15⟩, hc15⟩ := h.F
  have hm15 : e.F.length ≤ 9223372036854775807 := by have := hwf.F.1; unfold maxLen at this; omega
  obtain ⟨L15, HL15⟩ : ∃ L, e.F.length = L := ⟨_, rfl⟩
  rw [HL15] at hv15 ha15 hm15
  have A15 := Hid.mk' ha15
  have C15 := Hid.mk' hc15
  have N15 := Hid.mk' HL15
  clear ha15 hc15 hn15 HL15
  have hs0 : e.s0.size ≤ 9223372036854775807 := by have := hwf.s0; unfold maxLen at this; omega
  have hs1 : e.s1.size ≤ 9223372036854775807 := by have := hwf.s1; unfold maxLen at this; omega
  have hs2 : e.s2.size ≤ 9223372036854775807 := by have := hwf.s2; unfold maxLen at this; omega
  have hs3 : e.s3.size ≤ 9223372036854775807 := by have := hwf.s3; unfold maxLen at this; omega
  have hs4 : e.s4.size ≤ 9223372036854775807 := by have := hwf.s4; unfold maxLen at this; omega
  have hs5 : e.s5.size ≤ 9223372036854775807 := by have := hwf.s5; unfold maxLen at this; omega
  have hs6 : e.s6.size ≤ 9223372036854775807 := by have := hwf.s6; unfold maxLen at this; omega
  have HW := Hid.mk' hwf
  unfold E.cells
  rw [hv7, hv8, hv9, hv10, hv11, hv12, hv13, hv14, hv15]
  clear h hwf hv7 hv8 hv9 hv10 hv11 hv12 hv13 hv14 hv15
  generalize e.s0 = s0 at *
  generalize e.s1 = s1 at *
  generalize e.s2 = s2 at *
  generalize e.s3 = s3 at *
  generalize e.s4 = s4 at *
  generalize e.s5 = s5 at *
  generalize e.s6 = s6 at *
  go_enter Try.func25, Try.ntmps25
  go_wp2
  any_goals (go_ret; exact ⟨Told.no _, (Below.refl _ _).alloc (Nat.le_refl _) _⟩)
  go_loop [5, 6] (fun z i => ∃ (k : Nat) (r : Int), k ≤ L7 ∧ i = .int .i64 k ∧ z = .int .i64 r ∧ 0 ≤ r ∧ r ≤ 1048576 ∧ Short e.T k) (fun _ i => L7 - (intOf i).toNat)
  case atStart => exact ⟨0, _, Nat.zero_le _, rfl, rfl, by omega, by omega, Short.zero _⟩
  case round =>
    obtain ⟨k, r, hk, rfl, rfl, hr0, hr1, hsh⟩ := hrel
    by_cases hlt : k < L7
    · obtain ⟨rfl, hb⟩ := A7.out (by omega)
      obtain ⟨x, hx⟩ : ∃ x, e.T[k]? = some x := ⟨_, List.getElem?_eq_getElem (by rw [N7.out]; exact hlt)⟩
      have g := C7.out k x hx
      have hwx := HW.out.T.2 x (List.mem_of_getElem? hx)
      have HX := Hid.mk' hx
      unfold maxLen at hwx
      clear hx
      go_wp2
      any_goals (go_ret; exact ⟨Told.no _, (Below.refl _ _).alloc (Nat.le_refl _) _⟩)
      go_round
      case rel => go_light; exact ⟨k + 1, _, by omega, by go_num, rfl, by omega, by omega, hsh.succ HX.out (by omega)⟩
      case measure => go_light; simp [intOf]; omega
    · have K7 := Hid.mk' (hsh.all (by rw [N7.out]; omega))
      clear hsh
      as_aux_lemma =>
        go_wp2
        any_goals (go_ret; exact ⟨Told.no _, (Below.refl _ _).alloc (Nat.le_refl _) _⟩)
        go_loop [5, 7] (fun z i => ∃ (k : Nat) (r : Int), k ≤ L8 ∧ i = .int .i64 k ∧ z = .int .i64 r ∧ 0 ≤ r ∧ r ≤ 1048576 ∧ Short e.G k) (fun _ i => L8 - (intOf i).toNat)
        case atStart => exact ⟨0, _, Nat.zero_le _, rfl, rfl, by omega, by omega, Short.zero _⟩
        case round =>
          obtain ⟨k, r, hk, rfl, rfl, hr0, hr1, hsh⟩ := hrel
          by_cases hlt : k < L8
          · obtain ⟨rfl, hb⟩ := A8.out (by omega)
            obtain ⟨x, hx⟩ : ∃ x, e.G[k]? = some x := ⟨_, List.getElem?_eq_getElem (by rw [N8.out]; exact hlt)⟩
            have g := C8.out k x hx
            have hwx := HW.out.G.2 x (List.mem_of_getElem? hx)
            have HX := Hid.mk' hx
            unfold maxLen at hwx
            clear hx
            go_wp2
            any_goals (go_ret; exact ⟨Told.no _, (Below.refl _ _).alloc (Nat.le_refl _) _⟩)
            go_round
            case rel => go_light; exact ⟨k + 1, _, by omega, by go_num, rfl, by omega, by omega, hsh.succ HX.out (by omega)⟩
            case measure => go_light; simp [intOf]; omega
          · have K8 := Hid.mk' (hsh.all (by rw [N8.out]; omega))
            clear hsh
            as_aux_lemma =>
              go_wp2
              any_goals (go_ret; exact ⟨Told.no _, (Below.refl _ _).alloc (Nat.le_refl _) _⟩)
              go_loop [5, 8] (fun z i => ∃ (k : Nat) (r : Int), k ≤ L9 ∧ i = .int .i64 k ∧ z = .int .i64 r ∧ 0 ≤ r ∧ r ≤ 1048576 ∧ True) (fun _ i => L9 - (intOf i).toNat)
              case atStart => exact ⟨0, _, Nat.zero_le _, rfl, rfl, by omega, by omega, trivial⟩
              case round =>
                obtain ⟨k, r, hk, rfl, rfl, hr0, hr1, hsh⟩ := hrel
                by_cases hlt : k < L9
                · obtain ⟨rfl, hb⟩ := A9.out (by omega)
                  obtain ⟨x, hx⟩ : ∃ x, e.P[k]? = some x := ⟨_, List.getElem?_eq_getElem (by rw [N9.out]; exact hlt)⟩
                  have g := C9.out k x hx
                  have hwx := HW.out.P.2 x (List.mem_of_getElem? hx)
                  have HX := Hid.mk' hx
                  unfold maxLen at hwx
                  clear hx
                  obtain ⟨g1, g2⟩ := g
                  obtain ⟨q1, q2⟩ := hwx
                  go_wp2
                  any_goals (go_ret; exact ⟨Told.no _, (Below.refl _ _).alloc (Nat.le_refl _) _⟩)
                  go_round
                  case rel => go_light; exact ⟨k + 1, _, by omega, by go_num, rfl, by omega, by omega, trivial⟩
                  case measure => go_light; simp [intOf]; omega
                · clear hsh
                  as_aux_lemma =>
                    go_wp2
                    any_goals (go_ret; exact ⟨Told.no _, (Below.refl _ _).alloc (Nat.le_refl _) _⟩)
                    go_loop [5, 9] (fun z i => ∃ (k : Nat) (r : Int), k ≤ L10 ∧ i = .int .i64 k ∧ z = .int .i64 r ∧ 0 ≤ r ∧ r ≤ 1048576 ∧ True) (fun _ i => L10 - (intOf i).toNat)
                    case atStart => exact ⟨0, _, Nat.zero_le _, rfl, rfl, by omega, by omega, trivial⟩
                    case round =>
                      obtain ⟨k, r, hk, rfl, rfl, hr0, hr1, hsh⟩ := hrel
                      by_cases hlt : k < L10
                      · obtain ⟨rfl, hb⟩ := A10.out (by omega)
                        obtain ⟨x, hx⟩ : ∃ x, e.B[k]? = some x := ⟨_, List.getElem?_eq_getElem (by rw [N10.out]; exact hlt)⟩
                        have g := C10.out k x hx
                        have hwx := HW.out.B.2 x (List.mem_of_getElem? hx)
                        have HX := Hid.mk' hx
                        unfold maxLen at hwx
                        clear hx
                        obtain ⟨g1, g2, g3⟩ := g
                        obtain ⟨q1, q2, q3⟩ := hwx
                        go_wp2
                        any_goals (go_ret; exact ⟨Told.no _, (Below.refl _ _).alloc (Nat.le_refl _) _⟩)
                        go_round
                        case rel => go_light; exact ⟨k + 1, _, by omega, by go_num, rfl, by omega, by omega, trivial⟩
                        case measure => go_light; simp [intOf]; omega
                      · clear hsh
                        as_aux_lemma =>
                          go_wp2
                          any_goals (go_ret; exact ⟨Told.no _, (Below.refl _ _).alloc (Nat.le_refl _) _⟩)
                          go_loop [5, 10] (fun z i => ∃ (k : Nat) (r : Int), k ≤ L11 ∧ i = .int .i64 k ∧ z = .int .i64 r ∧ 0 ≤ r ∧ r ≤ 1048576 ∧ Short e.C k) (fun _ i => L11 - (intOf i).toNat)
                          case atStart => exact ⟨0, _, Nat.zero_le _, rfl, rfl, by omega, by omega, Short.zero _⟩
                          case round =>
                            obtain ⟨k, r, hk, rfl, rfl, hr0, hr1, hsh⟩ := hrel
                            by_cases hlt : k < L11
                            · obtain ⟨rfl, hb⟩ := A11.out (by omega)
                              obtain ⟨x, hx⟩ : ∃ x, e.C[k]? = some x := ⟨_, List.getElem?_eq_getElem (by rw [N11.out]; exact hlt)⟩
                              have g := C11.out k x hx
                              have hwx := HW.out.C.2 x (List.mem_of_getElem? hx)
                              have HX := Hid.mk' hx
                              unfold maxLen at hwx
                              clear hx
                              go_wp2
                              any_goals (go_ret; exact ⟨Told.no _, (Below.refl _ _).alloc (Nat.le_refl _) _⟩)
                              go_round
                              case rel => go_light; exact ⟨k + 1, _, by omega, by go_num, rfl, by omega, by omega, hsh.succ HX.out (by omega)⟩
                              case measure => go_light; simp [intOf]; omega
                            · have K11 := Hid.mk' (hsh.all (by rw [N11.out]; omega))
                              clear hsh
                              as_aux_lemma =>
                                go_wp2
                                any_goals (go_ret; exact ⟨Told.no _, (Below.refl _ _).alloc (Nat.le_refl _) _⟩)
                                go_loop [5, 11] (fun z i => ∃ (k : Nat) (r : Int), k ≤ L12 ∧ i = .int .i64 k ∧ z = .int .i64 r ∧ 0 ≤ r ∧ r ≤ 1048576 ∧ True) (fun _ i => L12 - (intOf i).toNat)
                                case atStart => exact ⟨0, _, Nat.zero_le _, rfl, rfl, by omega, by omega, trivial⟩
                                case round =>
                                  obtain ⟨k, r, hk, rfl, rfl, hr0, hr1, hsh⟩ := hrel
                                  by_cases hlt : k < L12
                                  · obtain ⟨rfl, hb⟩ := A12.out (by omega)
                                    obtain ⟨x, hx⟩ : ∃ x, e.Tg[k]? = some x := ⟨_, List.getElem?_eq_getElem (by rw [N12.out]; exact hlt)⟩
                                    have g := C12.out k x hx
                                    have hwx := HW.out.Tg.2 x (List.mem_of_getElem? hx)
                                    have HX := Hid.mk' hx
                                    unfold maxLen at hwx
                                    clear hx
                                    obtain ⟨g1, g2⟩ := g
                                    obtain ⟨q1, q2⟩ := hwx
                                    go_wp2
                                    any_goals (go_ret; exact ⟨Told.no _, (Below.refl _ _).alloc (Nat.le_refl _) _⟩)
                                    go_round
                                    case rel => go_light; exact ⟨k + 1, _, by omega, by go_num, rfl, by omega, by omega, trivial⟩
                                    case measure => go_light; simp [intOf]; omega
                                  · clear hsh
                                    as_aux_lemma =>
                                      go_wp2
                                      any_goals (go_ret; exact ⟨Told.no _, (Below.refl _ _).alloc (Nat.le_refl _) _⟩)
                                      go_loop [5, 12] (fun z i => ∃ (k : Nat) (r : Int), k ≤ L13 ∧ i = .int .i64 k ∧ z = .int .i64 r ∧ 0 ≤ r ∧ r ≤ 1048576 ∧ True) (fun _ i => L13 - (intOf i).toNat)
                                      case atStart => exact ⟨0, _, Nat.zero_le _, rfl, rfl, by omega, by omega, trivial⟩
                                      case round =>
                                        obtain ⟨k, r, hk, rfl, rfl, hr0, hr1, hsh⟩ := hrel
                                        by_cases hlt : k < L13
                                        · obtain ⟨rfl, hb⟩ := A13.out (by omega)
                                          obtain ⟨x, hx⟩ : ∃ x, e.I[k]? = some x := ⟨_, List.getElem?_eq_getElem (by rw [N13.out]; exact hlt)⟩
                                          have g := C13.out k x hx
                                          have hwx := HW.out.I.2 x (List.mem_of_getElem? hx)
                                          have HX := Hid.mk' hx
                                          unfold maxLen at hwx
                                          clear hx
                                          obtain ⟨g1, g2, g3⟩ := g
                                          obtain ⟨q1, q2⟩ := hwx
                                          by_cases hs : x.some' = true
                                          · obtain ⟨hl, d0, d1, d2, d3⟩ := g3 hs
                                            have g2' : w.cell? ⟨b13, o13 + k * 2 + 1, none⟩ = some (.pointer (some ⟨x.rb, x.ro, none⟩)) := by rw [g2]; simp [Inst.ptr, hs]
                                            obtain ⟨q3, q4⟩ := q2 hs
                                            clear g2 g3 q2 hs
                                            go_wp2
                                            any_goals (go_ret; exact ⟨Told.no _, (Below.refl _ _).alloc (Nat.le_refl _) _⟩)
                                            go_round
                                            case rel => go_light; exact ⟨k + 1, _, by omega, by go_num, rfl, by omega, by omega, trivial⟩
                                            case measure => go_light; simp [intOf]; omega
                                          · have g2' : w.cell? ⟨b13, o13 + k * 2 + 1, none⟩ = some (.pointer none) := by rw [g2]; simp [Inst.ptr, hs]
                                            clear g2 g3 q2 hs
                                            go_wp2
                                            any_goals (go_ret; exact ⟨Told.no _, (Below.refl _ _).alloc (Nat.le_refl _) _⟩)
                                            go_round
                                            case rel => go_light; exact ⟨k + 1, _, by omega, by go_num, rfl, by omega, by omega, trivial⟩
                                            case measure => go_light; simp [intOf]; omega
                                        · clear hsh
                                          as_aux_lemma =>
                                            go_wp2
                                            any_goals (go_ret; exact ⟨Told.no _, (Below.refl _ _).alloc (Nat.le_refl _) _⟩)
                                            go_loop [5, 13] (fun z i => ∃ (k : Nat) (r : Int), k ≤ L14 ∧ i = .int .i64 k ∧ z = .int .i64 r ∧ 0 ≤ r ∧ r ≤ 1048576 ∧ Short e.M k) (fun _ i => L14 - (intOf i).toNat)
                                            case atStart => exact ⟨0, _, Nat.zero_le _, rfl, rfl, by omega, by omega, Short.zero _⟩
                                            case round =>
                                              obtain ⟨k, r, hk, rfl, rfl, hr0, hr1, hsh⟩ := hrel
                                              by_cases hlt : k < L14
                                              · obtain ⟨rfl, hb⟩ := A14.out (by omega)
                                                obtain ⟨x, hx⟩ : ∃ x, e.M[k]? = some x := ⟨_, List.getElem?_eq_getElem (by rw [N14.out]; exact hlt)⟩
                                                have g := C14.out k x hx
                                                have hwx := HW.out.M.2 x (List.mem_of_getElem? hx)
                                                have HX := Hid.mk' hx
                                                unfold maxLen at hwx
                                                clear hx
                                                go_wp2
                                                any_goals (go_ret; exact ⟨Told.no _, (Below.refl _ _).alloc (Nat.le_refl _) _⟩)
                                                go_round
                                                case rel => go_light; exact ⟨k + 1, _, by omega, by go_num, rfl, by omega, by omega, hsh.succ HX.out (by omega)⟩
                                                case measure => go_light; simp [intOf]; omega
                                              · have K14 := Hid.mk' (hsh.all (by rw [N14.out]; omega))
                                                clear hsh
                                                as_aux_lemma =>
                                                  go_wp2
                                                  any_goals (go_ret; exact ⟨Told.no _, (Below.refl _ _).alloc (Nat.le_refl _) _⟩)
                                                  go_loop [5, 14] (fun z i => ∃ (k : Nat) (r : Int), k ≤ L15 ∧ i = .int .i64 k ∧ z = .int .i64 r ∧ 0 ≤ r ∧ r ≤ 1048576 ∧ ShortF e.F k) (fun _ i => L15 - (intOf i).toNat)
                                                  case atStart => exact ⟨0, _, Nat.zero_le _, rfl, rfl, by omega, by omega, ShortF.zero _⟩
                                                  case round =>
                                                    obtain ⟨k, r, hk, rfl, rfl, hr0, hr1, hsh⟩ := hrel
                                                    by_cases hlt : k < L15
                                                    · obtain ⟨rfl, hb⟩ := A15.out (by omega)
                                                      obtain ⟨x, hx⟩ : ∃ x, e.F[k]? = some x := ⟨_, List.getElem?_eq_getElem (by rw [N15.out]; exact hlt)⟩
                                                      have g := C15.out k x hx
                                                      have hwx := HW.out.F.2 x (List.mem_of_getElem? hx)
                                                      have HX := Hid.mk' hx
                                                      unfold maxLen at hwx
                                                      clear hx
                                                      obtain ⟨g0, g1, g2, g3, g4, ⟨bA, oA, ⟨aA, cA, hvA, haA, _⟩, hcA⟩⟩ := g
                                                      obtain ⟨q0, q1, q2, q3, q4⟩ := hwx
                                                      obtain ⟨LA, HLA⟩ : ∃ L, x.assets.length = L := ⟨_, rfl⟩
                                                      rw [HLA] at hvA haA q3
                                                      rw [hvA] at g3
                                                      have AA := Hid.mk' haA
                                                      have CA := Hid.mk' hcA
                                                      have NA := Hid.mk' HLA
                                                      have QA := Hid.mk' q4
                                                      clear haA hcA HLA hvA q4
                                                      go_wp2
                                                      any_goals (go_ret; exact ⟨Told.no _, (Below.refl _ _).alloc (Nat.le_refl _) _⟩)
                                                      go_loop [5, 15] (fun z i => ∃ (k : Nat) (r : Int), k ≤ LA ∧ i = .int .i64 k ∧ z = .int .i64 r ∧ 0 ≤ r ∧ r ≤ 1048576) (fun _ i => LA - (intOf i).toNat)
                                                      case atStart => exact ⟨0, _, Nat.zero_le _, rfl, rfl, by omega, by omega⟩
                                                      case round =>
                                                        obtain ⟨k2, r2, hk2, rfl, rfl, hr02, hr12⟩ := hrel
                                                        by_cases hlt2 : k2 < LA
                                                        · obtain ⟨rfl, hbA⟩ := AA.out (by omega)
                                                          obtain ⟨X, hX⟩ : ∃ X, x.assets[k2]? = some X := ⟨_, List.getElem?_eq_getElem (by rw [NA.out]; exact hlt2)⟩
                                                          have gA := CA.out k2 X hX
                                                          have qA := QA.out X (List.mem_of_getElem? hX)
                                                          clear hX
                                                          go_wp2
                                                          any_goals (go_ret; exact ⟨Told.no _, (Below.refl _ _).alloc (Nat.le_refl _) _⟩)
                                                          go_round
                                                          case rel => go_light; exact ⟨k2 + 1, _, by omega, by go_num, rfl, by omega, by omega⟩
                                                          case measure => go_light; simp [intOf]; omega
                                                        · go_wp2
                                                          go_round
                                                          case rel => go_light; exact ⟨k + 1, _, by omega, by go_num, rfl, by omega, by omega, hsh.succ HX.out (by rw [NA.out]; omega)⟩
                                                          case measure => go_light; simp [intOf]; omega
                                                    · have K15 := Hid.mk' (hsh.all (by rw [N15.out]; omega))
                                                      clear hsh
                                                      as_aux_lemma =>
                                                        go_wp2
                                                        go_ret
                                                        exact ⟨Told.yes ⟨⟨by rw [N7.out]; omega, K7.out⟩, ⟨by rw [N8.out]; omega, K8.out⟩, ⟨by rw [N11.out]; omega, K11.out⟩, by rw [N9.out]; omega, by rw [N12.out]; omega, by rw [N10.out]; omega, by rw [N13.out]; omega, ⟨by rw [N15.out]; omega, K15.out⟩⟩, (Below.refl _ _).alloc (Nat.le_refl _) _⟩
end Go.Proofs.Qxb6616617a.W
