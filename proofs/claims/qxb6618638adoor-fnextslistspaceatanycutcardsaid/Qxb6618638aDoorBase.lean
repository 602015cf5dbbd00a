/-
  zzSameStrings, zzSpendStrings.
-/
import Derived.Test.Qxb6618638aDoorFields
import Derived.Maps.OwnSet
import Derived.Maps.StringElems
import Derived.Handy
namespace Go.Proofs.Qxb6618638aDoor.W
open Go.ChangeShapes Go.WideShapes Go.ChangeAt Go.RowKit Go.Maps
set_option linter.unusedVariables false

/-- v IS A SLICE WHOSE ELEMENTS ARE THE STRINGS Xs. -/
def Strs (w : World) (v : Value) (Xs : List ByteArray) : Prop :=
  ∃ (a : Option Addr) (b o c : Nat), v = .slice a Xs.length c ∧ (0 < Xs.length → a = some ⟨b, o, none⟩ ∧ b < w.heap.size) ∧ (∀ (j : Nat) X, Xs[j]? = some X → w.cell? ⟨b, o + j, none⟩ = some (.string X))

set_option maxHeartbeats 1000000 in
theorem same (v1 v2 : Value) (Xs : List ByteArray) (w : World) (hl : Xs.length ≤ 4000000) (h1 : Strs w v1 Xs) (h2 : Strs w v2 Xs) :
    Calls Tryd.prog 9 #[v1, v2] w fun e w' => e = .returned (.bool true) ∧ ∃ n, w' = w.drewN n := by
  obtain ⟨a1, b1, o1, c1, rfl, ha1, hc1⟩ := h1
  obtain ⟨a2, b2, o2, c2, rfl, ha2, hc2⟩ := h2
  have A1 : Hid (0 < Xs.length → a1 = some ⟨b1, o1, none⟩ ∧ b1 < w.heap.size) := ha1
  have A2 : Hid (0 < Xs.length → a2 = some ⟨b2, o2, none⟩ ∧ b2 < w.heap.size) := ha2
  have C1 : Hid (∀ (j : Nat) X, Xs[j]? = some X → w.cell? ⟨b1, o1 + j, none⟩ = some (.string X)) := hc1
  have C2 : Hid (∀ (j : Nat) X, Xs[j]? = some X → w.cell? ⟨b2, o2 + j, none⟩ = some (.string X)) := hc2
  clear ha1 ha2 hc1 hc2
  obtain ⟨L, HL⟩ : ∃ L, Xs.length = L := ⟨_, rfl⟩
  rw [HL] at A1 A2 hl
  rw [HL]
  have HL' : Hid (Xs.length = L) := HL
  clear HL
  go_enter Tryd.func9, Tryd.ntmps9
  go_wp2
  go_loopw [5] (fun i w' => ∃ k : Nat, k ≤ L ∧ i = .int .i64 k ∧ ∃ n, w' = w.drewN n) (fun i _ => L - (intOf i).toNat)
  case atStart => exact ⟨0, Nat.zero_le _, rfl, 0, rfl⟩
  case round =>
    obtain ⟨k, hk, rfl, n, rfl⟩ := hrel
    by_cases hlt : k < L
    · obtain ⟨rfl, hb1⟩ := A1.out (by omega)
      obtain ⟨rfl, hb2⟩ := A2.out (by omega)
      obtain ⟨X, hX⟩ : ∃ X, Xs[k]? = some X := ⟨_, List.getElem?_eq_getElem (by rw [HL'.out]; exact hlt)⟩
      have g1 := C1.out k X hX
      have g2 := C2.out k X hX
      clear hX
      have hlt' : (k : Int) < (L : Int) := by omega
      go_wp2
      go_quiet (fail)
      go_wp2
      go_roundw
      case rel => exact ⟨k + 1, by omega, by go_num, n + nq, rfl⟩
      case measure => simp [intOf]; omega
    · go_wp2
      go_ret
      exact ⟨rfl, n, rfl⟩

set_option maxHeartbeats 1000000 in
theorem spend (b : Int) (v : Value) (Xs : List ByteArray) (w : World) (hb0 : 0 ≤ b) (hb1 : b ≤ 1048576) (hl : Xs.length ≤ 4000000) (hs : ∀ X ∈ Xs, X.size ≤ 1048576) (h1 : Strs w v Xs) :
    Calls Tryd.prog 6 #[.int .i64 b, v] w fun e w' => ∃ r : Int, e = .returned (.int .i64 r) ∧ r ≤ 1048576 ∧ w' = w := by
  obtain ⟨a1, b1, o1, c1, rfl, ha1, hc1⟩ := h1
  have A1 : Hid (0 < Xs.length → a1 = some ⟨b1, o1, none⟩ ∧ b1 < w.heap.size) := ha1
  have C1 : Hid (∀ (j : Nat) X, Xs[j]? = some X → w.cell? ⟨b1, o1 + j, none⟩ = some (.string X)) := hc1
  have S1 : Hid (∀ X ∈ Xs, X.size ≤ 1048576) := hs
  clear ha1 hc1 hs
  obtain ⟨L, HL⟩ : ∃ L, Xs.length = L := ⟨_, rfl⟩
  rw [HL] at A1 hl
  rw [HL]
  have HL' : Hid (Xs.length = L) := HL
  clear HL
  go_enter Tryd.func6, Tryd.ntmps6
  go_wp2
  go_loop [0, 5] (fun bb i => ∃ (k : Nat) (r : Int), k ≤ L ∧ i = .int .i64 k ∧ bb = .int .i64 r ∧ 0 ≤ r ∧ r ≤ 1048576) (fun _ i => L - (intOf i).toNat)
  case atStart => exact ⟨0, b, Nat.zero_le _, rfl, rfl, hb0, hb1⟩
  case round =>
    obtain ⟨k, r, hk, rfl, rfl, hr0, hr1⟩ := hrel
    by_cases hlt : k < L
    · obtain ⟨rfl, hb1'⟩ := A1.out (by omega)
      obtain ⟨X, hX⟩ : ∃ X, Xs[k]? = some X := ⟨_, List.getElem?_eq_getElem (by rw [HL'.out]; exact hlt)⟩
      have g1 := C1.out k X hX
      have g2 := S1.out X (List.mem_of_getElem? hX)
      clear hX
      by_cases hneg : r - (16 + (X.size : Int)) < 0
      · go_wp2
        go_ret
        exact ⟨_, rfl, by omega, rfl⟩
      · go_wp2
        go_round
        case rel => exact ⟨k + 1, _, by omega, by go_num, rfl, by omega, by omega⟩
        case measure => simp [intOf]; omega
    · go_wp2
      go_ret
      exact ⟨_, rfl, by omega, rfl⟩
end Go.Proofs.Qxb6618638aDoor.W
