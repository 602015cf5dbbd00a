/-
  The small callees of seat b6616617a; how the lists that come in lie in memory.
-/
import Derived.Test.Qxb6616617aRows
import Derived.WalkKit
import Derived.ProofKit
import Derived.ShutString
import Derived.BigQuiet
import Derived.Deep.QuietTactic
import Derived.WalkSmall
import Derived.Handy
namespace Go.Proofs.Qxb6616617a.W
open Go.ChangeShapes Go.WideShapes Go.ChangeAt Go.RowKit
set_option linter.unusedVariables false

theorem Hid.mk' {p : Prop} (h : p) : Hid p := h
theorem ret_int {k : IntKind} {a b : Int} (h : a = b) : Ending.returned (.int k a) = .returned (.int k b) := by rw [h]

/-- v IS A SLICE WHOSE ELEMENTS ARE THE STRINGS Xs. -/
def Strs (w : World) (v : Value) (Xs : List ByteArray) : Prop :=
  ∃ (a : Option Addr) (b o c : Nat), v = .slice a Xs.length c ∧ (0 < Xs.length → a = some ⟨b, o, none⟩ ∧ b < w.heap.size) ∧ (∀ (j : Nat) X, Xs[j]? = some X → w.cell? ⟨b, o + j, none⟩ = some (.string X))

/-- An int that the counting of bytes may come to. -/
def Cnt (e : Ending) : Prop := ∃ r : Int, e = .returned (.int .i64 r) ∧ 0 ≤ r ∧ r ≤ 2000000

theorem Cnt.mk (r : Int) (h0 : 0 ≤ r) (h1 : r ≤ 2000000) : Cnt (.returned (.int .i64 r)) := ⟨r, rfl, h0, h1⟩

set_option maxHeartbeats 400000 in
theorem addStr (t : Int) (s : ByteArray) (w : World) (h0 : 0 ≤ t) (h1 : t ≤ 3000000) (hs : s.size ≤ maxLen) :
    Calls Try.prog 14 #[.int .i64 t, .string s] w fun e w' => (∃ r : Int, e = .returned (.int .i64 r) ∧ 0 ≤ r ∧ r ≤ 1048577) ∧ w' = w := by
  unfold maxLen at hs
  by_cases c1 : 1048576 < t
  · go_enter Try.func14, Try.ntmps14
    go_wp2
    go_ret
    exact ⟨⟨_, rfl, by omega, by omega⟩, rfl⟩
  by_cases c2 : (1048576 : Int) < s.size
  · go_enter Try.func14, Try.ntmps14
    go_wp2
    go_ret
    exact ⟨⟨_, rfl, by omega, by omega⟩, rfl⟩
  by_cases c3 : 1048576 < t + s.size
  · go_enter Try.func14, Try.ntmps14
    go_wp2
    go_ret
    exact ⟨⟨_, rfl, by omega, by omega⟩, rfl⟩
  · go_enter Try.func14, Try.ntmps14
    go_wp2
    go_ret
    exact ⟨⟨_, rfl, by omega, by omega⟩, rfl⟩

set_option maxHeartbeats 400000 in
theorem addBytes (t : Int) (a : Option Addr) (n c : Nat) (w : World) (h0 : 0 ≤ t) (h1 : t ≤ 3000000) (hs : n ≤ maxLen) :
    Calls Try.prog 31 #[.int .i64 t, .slice a n c] w fun e w' => (∃ r : Int, e = .returned (.int .i64 r) ∧ 0 ≤ r ∧ r ≤ 1048577) ∧ w' = w := by
  unfold maxLen at hs
  by_cases c1 : 1048576 < t
  · go_enter Try.func31, Try.ntmps31
    go_wp2
    go_ret
    exact ⟨⟨_, rfl, by omega, by omega⟩, rfl⟩
  by_cases c2 : (1048576 : Int) < n
  · go_enter Try.func31, Try.ntmps31
    go_wp2
    go_ret
    exact ⟨⟨_, rfl, by omega, by omega⟩, rfl⟩
  by_cases c3 : 1048576 < t + n
  · go_enter Try.func31, Try.ntmps31
    go_wp2
    go_ret
    exact ⟨⟨_, rfl, by omega, by omega⟩, rfl⟩
  · go_enter Try.func31, Try.ntmps31
    go_wp2
    go_ret
    exact ⟨⟨_, rfl, by omega, by omega⟩, rfl⟩

set_option maxHeartbeats 1000000 in
theorem addStrs (t : Int) (v : Value) (Xs : List ByteArray) (w : World) (h0 : 0 ≤ t) (h1 : t ≤ 1500000) (hl : Xs.length ≤ maxLen) (hs : ∀ X ∈ Xs, X.size ≤ maxLen) (hv : Strs w v Xs) :
    Calls Try.prog 15 #[.int .i64 t, v] w fun e w' => (∃ r : Int, e = .returned (.int .i64 r) ∧ 0 ≤ r ∧ r ≤ 1500000) ∧ w' = w := by
  obtain ⟨a1, b1, o1, c1, rfl, ha1, hc1⟩ := hv
  have A1 := Hid.mk' ha1
  have C1 := Hid.mk' hc1
  have S1 := Hid.mk' hs
  clear ha1 hc1 hs
  obtain ⟨L, HL⟩ : ∃ L, Xs.length = L := ⟨_, rfl⟩
  rw [HL] at A1 hl
  rw [HL]
  have HL' := Hid.mk' HL
  clear HL
  unfold maxLen at hl
  go_enter Try.func15, Try.ntmps15
  go_wp2
  go_loop [0, 5] (fun bb i => ∃ (k : Nat) (r : Int), k ≤ L ∧ i = .int .i64 k ∧ bb = .int .i64 r ∧ 0 ≤ r ∧ r ≤ 1500000) (fun _ i => L - (intOf i).toNat)
  case atStart => exact ⟨0, t, Nat.zero_le _, rfl, rfl, h0, h1⟩
  case round =>
    obtain ⟨k, r, hk, rfl, rfl, hr0, hr1⟩ := hrel
    by_cases hlt : k < L
    · obtain ⟨rfl, hb1'⟩ := A1.out (by omega)
      obtain ⟨X, hX⟩ : ∃ X, Xs[k]? = some X := ⟨_, List.getElem?_eq_getElem (by rw [HL'.out]; exact hlt)⟩
      have g1 := C1.out k X hX
      have g2 := S1.out X (List.mem_of_getElem? hX)
      clear hX
      go_wp2_with (go_at_call 14; refine (addStr _ _ _ hr0 (by omega) g2).mono ?_; rintro e w' ⟨⟨r', rfl, hr0', hr1'⟩, rfl⟩)
      · go_ret
        exact ⟨⟨_, rfl, by omega, by omega⟩, rfl⟩
      · go_round
        case rel => exact ⟨k + 1, _, by omega, by go_num, rfl, by omega, by omega⟩
        case measure => simp [intOf]; omega
    · go_wp2
      go_ret
      exact ⟨⟨_, rfl, by omega, by omega⟩, rfl⟩
end Go.Proofs.Qxb6616617a.W
