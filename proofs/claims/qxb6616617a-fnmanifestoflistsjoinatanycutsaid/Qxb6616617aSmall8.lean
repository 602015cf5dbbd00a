/-
  The small callees of the second law: vsixB1Cut, vsixB1AssetCount, vsixB1JoinOf; and what is glued of a list cut in two.
-/
import Derived.Test.Qxb6616617aShow
import Derived.Test.Qxb6616617aJoin
namespace Go.Proofs.Qxb6616617a.W
open Go.ChangeShapes Go.WideShapes Go.ChangeAt Go.RowKit
set_option linter.unusedVariables false

set_option maxHeartbeats 400000 in
theorem cut26 (c : Int) (n : Nat) (w : World) (hn : n ≤ 1048576) :
    Calls Try.prog 26 #[.int .i64 c, .int .i64 (n : Int)] w fun e w' => (∃ k : Nat, e = .returned (.int .i64 (k : Int)) ∧ k ≤ n) ∧ w' = w := by
  by_cases c1 : c < 0
  · go_enter Try.func26, Try.ntmps26
    go_wp2
    go_ret
    exact ⟨⟨0, rfl, Nat.zero_le _⟩, rfl⟩
  by_cases c2 : (n : Int) < c
  · go_enter Try.func26, Try.ntmps26
    go_wp2
    go_ret
    exact ⟨⟨n, rfl, Nat.le_refl _⟩, rfl⟩
  · obtain ⟨k, rfl⟩ := Int.eq_ofNat_of_zero_le (show 0 ≤ c by omega)
    go_enter Try.func26, Try.ntmps26
    go_wp2
    go_ret
    exact ⟨⟨k, rfl, by omega⟩, rfl⟩

/-- The string that vsixB1JoinOf makes. -/
def joinOf (l r : ByteArray) (nL nR : Nat) (sep : ByteArray) : ByteArray := if nL = 0 then r else if nR = 0 then l else l ++ sep ++ r

set_option maxHeartbeats 400000 in
theorem joinOf28 (l r : ByteArray) (nL nR : Nat) (sep : ByteArray) (w : World) (hs : l.size + sep.size + r.size ≤ maxLen) :
    Calls Try.prog 28 #[.string l, .string r, .int .i64 (nL : Int), .int .i64 (nR : Int), .string sep] w fun e w' => e = .returned (.string (joinOf l r nL nR sep)) ∧ w' = w := by
  by_cases c1 : nL = 0
  · subst c1
    go_enter Try.func28, Try.ntmps28
    go_wp2
    go_ret
    exact ⟨by simp [joinOf], rfl⟩
  by_cases c2 : nR = 0
  · subst c2
    have c1' : ¬ (nL : Int) = 0 := by omega
    go_enter Try.func28, Try.ntmps28
    go_wp2
    go_ret
    exact ⟨by simp [joinOf, c1], rfl⟩
  · have c1' : ¬ (nL : Int) = 0 := by omega
    have c2' : ¬ (nR : Int) = 0 := by omega
    unfold maxLen at hs
    have s1 : ¬ 9223372036854775807 < l.size + sep.size := by omega
    have s2 : ¬ 9223372036854775807 < l.size + sep.size + r.size := by omega
    go_enter Try.func28, Try.ntmps28
    go_wp2
    go_ret
    exact ⟨by simp [joinOf, c1, c2], rfl⟩

set_option maxHeartbeats 1000000 in
theorem assets27 (v : Value) (F : List Fl) (w : World) (h : Fils w v F) (hn : F.length ≤ 1048576) (ha : ∀ x ∈ F, x.assets.length ≤ 1048576) :
    Calls Try.prog 27 #[v] w fun e w' => e = .returned (.int .i64 ((assetsAll F).length : Int)) ∧ w' = w := by
  obtain ⟨b, o, ⟨a, c, rfl, h1, _⟩, h3⟩ := h
  have A1 := Hid.mk' h1
  have C1 := Hid.mk' h3
  have S1 := Hid.mk' ha
  obtain ⟨L, HL⟩ : ∃ L, F.length = L := ⟨_, rfl⟩
  rw [HL] at A1 hn
  rw [HL]
  have HL' := Hid.mk' HL
  clear h1 h3 ha HL
  go_enter Try.func27, Try.ntmps27
  go_wp2
  go_loop [3, 4] (fun t i => ∃ (k q : Nat), k ≤ L ∧ i = .int .i64 k ∧ t = .int .i64 q ∧ q ≤ k * 1048576 ∧ Hid (q = (assetsAll (F.take k)).length)) (fun _ i => L - (intOf i).toNat)
  case atStart => exact ⟨0, 0, Nat.zero_le _, rfl, rfl, Nat.zero_le _, rfl⟩
  case round =>
    obtain ⟨k, q, hk, rfl, rfl, hq, HQ⟩ := hrel
    by_cases hlt : k < L
    · obtain ⟨rfl, hb⟩ := A1.out (by omega)
      obtain ⟨x, hx⟩ : ∃ x, F[k]? = some x := ⟨_, List.getElem?_eq_getElem (by rw [HL'.out]; exact hlt)⟩
      obtain ⟨g0, g1, g2, g3, g4, ⟨b', o', ⟨a', c', hv, _⟩, _⟩⟩ := C1.out k x hx
      have hs := S1.out x (List.mem_of_getElem? hx)
      obtain ⟨LX, HLX⟩ : ∃ L, x.assets.length = L := ⟨_, rfl⟩
      rw [hv, HLX] at g3
      rw [HLX] at hs
      have HQ2 := Hid.mk' (show q + LX = (assetsAll (F.take (k + 1))).length by rw [assetsAll_take hx, List.length_append, assetsOf_len, HLX, HQ.out])
      have hlt' : (k : Int) < (L : Int) := by omega
      have hk0 : (0 : Int) ≤ (k : Int) := by omega
      have hq' : q ≤ 1099511627776 := by
        have : k * 1048576 ≤ 1048576 * 1048576 := Nat.mul_le_mul_right _ (by omega)
        omega
      clear hx HLX hv g0 g1 g2 g4
      go_wp2
      go_round
      case rel => exact ⟨k + 1, q + LX, by omega, by go_num, by go_num, by rw [Nat.succ_mul]; omega, HQ2.out⟩
      case measure => simp [intOf]; omega
    · have e1 : q = (assetsAll F).length := by
        have := HQ.out
        rw [List.take_of_length_le (by rw [HL'.out]; omega)] at this
        exact this
      have E1 := Hid.mk' e1
      clear e1
      have hlt' : ¬ (k : Int) < (L : Int) := by omega
      go_wp2
      go_ret
      exact ⟨by rw [E1.out]; rfl, rfl⟩

/-! ### what is glued of a list cut in two -/
theorem join_cut (sep : List UInt8) : ∀ (A B : List (List UInt8)), A ≠ [] → B ≠ [] → Lib.join (A ++ B) sep = Lib.join A sep ++ sep ++ Lib.join B sep := by
  intro A
  induction A with
  | nil => intro B h; exact absurd rfl h
  | cons x r ih =>
    intro B _ hB
    cases r with
    | nil =>
      cases B with
      | nil => exact absurd rfl hB
      | cons y s => simp [Lib.join, List.intercalate_cons_cons]
    | cons y s =>
      have := ih B (by simp) hB
      simp only [Lib.join, List.cons_append, List.intercalate_cons_cons] at this ⊢
      rw [this]
      simp

theorem glue_cut (Xs : List ByteArray) (c : UInt8) (k : Nat) (hk : k ≤ Xs.length) : glue Xs c = joinOf (glue (Xs.take k) c) (glue (Xs.drop k) c) k (Xs.length - k) ⟨#[c]⟩ := by
  unfold joinOf
  by_cases h1 : k = 0
  · subst h1; simp
  · rw [if_neg h1]
    by_cases h2 : Xs.length - k = 0
    · rw [if_pos h2, List.take_of_length_le (by omega)]
    · rw [if_neg h2]
      have h3 := join_cut [c] ((Xs.take k).map (·.data.toList)) ((Xs.drop k).map (·.data.toList)) (by simp; exact ⟨h1, by intro e; subst e; simp at hk; omega⟩) (by simp; omega)
      rw [← List.map_append, List.take_append_drop] at h3
      unfold glue
      rw [h3]
      apply ByteArray.ext
      simp [ByteArray.data_append]
end Go.Proofs.Qxb6616617a.W
