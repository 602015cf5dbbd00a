/-
  The looks at the lengths.
-/
import Derived.Test.Qxb6618638aDoorBase
namespace Go.Proofs.Qxb6618638aDoor.W
open Go.ChangeShapes Go.WideShapes Go.ChangeAt Go.RowKit Go.Maps
set_option linter.unusedVariables false

/-- The first k strings are short. -/
def Short (Xs : List ByteArray) (k : Nat) : Prop := ∀ (j : Nat) X, j < k → Xs[j]? = some X → X.size ≤ 1048576
theorem Short.zero (Xs : List ByteArray) : Short Xs 0 := fun j X h => absurd h (by omega)
theorem Short.succ {Xs : List ByteArray} {k : Nat} (h : Short Xs k) {X : ByteArray} (hX : Xs[k]? = some X) (hs : X.size ≤ 1048576) : Short Xs (k + 1) := fun j Y hj hY => by
  by_cases e : j = k
  · subst e
    rw [hX] at hY
    cases hY
    exact hs
  · exact h j Y (by omega) hY
theorem Short.all {Xs : List ByteArray} {k : Nat} (h : Short Xs k) (hk : Xs.length ≤ k) : ∀ X ∈ Xs, X.size ≤ 1048576 := fun X hX => by
  obtain ⟨j, hj, e⟩ := List.getElem_of_mem hX
  exact h j X (by omega) (by rw [List.getElem?_eq_getElem hj, e])

/-- What the look at the lengths tells: if it says yes, every string is short. -/
def Told (Ks Vs : List ByteArray) (e : Ending) : Prop := ∃ b, e = .returned (.bool b) ∧ (b = true → (∀ X ∈ Ks, X.size ≤ 1048576) ∧ (∀ X ∈ Vs, X.size ≤ 1048576))
theorem Told.no (Ks Vs : List ByteArray) : Told Ks Vs (.returned (.bool false)) := ⟨_, rfl, by simp⟩
theorem Told.yes {Ks Vs : List ByteArray} (h1 : ∀ X ∈ Ks, X.size ≤ 1048576) (h2 : ∀ X ∈ Vs, X.size ≤ 1048576) : Told Ks Vs (.returned (.bool true)) := ⟨_, rfl, fun _ => ⟨h1, h2⟩⟩

set_option maxHeartbeats 2000000 in
theorem bytes5 (v1 v2 : Value) (c : Int) (Ks Vs : List ByteArray) (w : World) (hm1 : Ks.length ≤ maxLen) (hm2 : Vs.length ≤ maxLen) (hs1 : ∀ X ∈ Ks, X.size ≤ maxLen) (hs2 : ∀ X ∈ Vs, X.size ≤ maxLen) (h1 : Strs w v1 Ks) (h2 : Strs w v2 Vs) :
    Calls Tryd.prog 5 #[v1, v2, .int .i64 c] w fun e w' => Told Ks Vs e ∧ w' = w := by
  obtain ⟨a1, b1, o1, c1, rfl, ha1, hc1⟩ := h1
  obtain ⟨a2, b2, o2, c2, rfl, ha2, hc2⟩ := h2
  have A1 : Hid (0 < Ks.length → a1 = some ⟨b1, o1, none⟩ ∧ b1 < w.heap.size) := ha1
  have A2 : Hid (0 < Vs.length → a2 = some ⟨b2, o2, none⟩ ∧ b2 < w.heap.size) := ha2
  have C1 : Hid (∀ (j : Nat) X, Ks[j]? = some X → w.cell? ⟨b1, o1 + j, none⟩ = some (.string X)) := hc1
  have C2 : Hid (∀ (j : Nat) X, Vs[j]? = some X → w.cell? ⟨b2, o2 + j, none⟩ = some (.string X)) := hc2
  have S1 : Hid (∀ X ∈ Ks, X.size ≤ maxLen) := hs1
  have S2 : Hid (∀ X ∈ Vs, X.size ≤ maxLen) := hs2
  clear ha1 ha2 hc1 hc2 hs1 hs2
  obtain ⟨L1, HL1⟩ : ∃ L, Ks.length = L := ⟨_, rfl⟩
  obtain ⟨L2, HL2⟩ : ∃ L, Vs.length = L := ⟨_, rfl⟩
  rw [HL1] at A1 hm1
  rw [HL2] at A2 hm2
  rw [HL1, HL2]
  have HL1' : Hid (Ks.length = L1) := HL1
  have HL2' : Hid (Vs.length = L2) := HL2
  clear HL1 HL2
  unfold maxLen at hm1 hm2
  by_cases t1 : L1 ≤ 1048576
  · go_enter Tryd.func5, Tryd.ntmps5
    go_wp2
    go_loop [7, 8] (fun z i => ∃ (k : Nat) (r : Int), k ≤ L1 ∧ i = .int .i64 k ∧ z = .int .i64 r ∧ 0 ≤ r ∧ r ≤ 1048576 ∧ Short Ks k) (fun _ i => L1 - (intOf i).toNat)
    case atStart => exact ⟨0, L1, Nat.zero_le _, rfl, by go_num, by omega, by omega, Short.zero _⟩
    case round =>
      obtain ⟨k, r, hk, rfl, rfl, hr0, hr1, hsh⟩ := hrel
      by_cases hlt : k < L1
      · obtain ⟨rfl, hb1'⟩ := A1.out (by omega)
        obtain ⟨X, hX⟩ : ∃ X, Ks[k]? = some X := ⟨_, List.getElem?_eq_getElem (by rw [HL1'.out]; exact hlt)⟩
        have g1 := C1.out k X hX
        have g2 := S1.out X (List.mem_of_getElem? hX)
        unfold maxLen at g2
        have HX : Hid (Ks[k]? = some X) := hX
        clear hX
        by_cases t2 : X.size ≤ 1048576
        · by_cases t3 : r + (X.size : Int) ≤ 1048576
          · go_wp2
            go_round
            case rel => exact ⟨k + 1, _, by omega, by go_num, rfl, by omega, by omega, hsh.succ HX.out t2⟩
            case measure => simp [intOf]; omega
          · go_wp2
            go_ret
            exact ⟨Told.no _ _, rfl⟩
        · go_wp2
          go_ret
          exact ⟨Told.no _ _, rfl⟩
      · have HK : Hid (∀ X ∈ Ks, X.size ≤ 1048576) := hsh.all (by rw [HL1'.out]; omega)
        clear hsh
        by_cases t4 : L2 ≤ 1048576
        · by_cases t5 : r + (L2 : Int) ≤ 1048576
          · go_wp2
            go_loop [7, 9] (fun z i => ∃ (k : Nat) (r : Int), k ≤ L2 ∧ i = .int .i64 k ∧ z = .int .i64 r ∧ 0 ≤ r ∧ r ≤ 1048576 ∧ Short Vs k) (fun _ i => L2 - (intOf i).toNat)
            case atStart => exact ⟨0, _, Nat.zero_le _, rfl, rfl, by omega, by omega, Short.zero _⟩
            case round =>
              obtain ⟨k, r, hk, rfl, rfl, hr0, hr1, hsh⟩ := hrel
              by_cases hlt : k < L2
              · obtain ⟨rfl, hb1'⟩ := A2.out (by omega)
                obtain ⟨X, hX⟩ : ∃ X, Vs[k]? = some X := ⟨_, List.getElem?_eq_getElem (by rw [HL2'.out]; exact hlt)⟩
                have g1 := C2.out k X hX
                have g2 := S2.out X (List.mem_of_getElem? hX)
                unfold maxLen at g2
                have HX : Hid (Vs[k]? = some X) := hX
                clear hX
                by_cases t2 : X.size ≤ 1048576
                · by_cases t3 : r + (X.size : Int) ≤ 1048576
                  · go_wp2
                    go_round
                    case rel => exact ⟨k + 1, _, by omega, by go_num, rfl, by omega, by omega, hsh.succ HX.out t2⟩
                    case measure => simp [intOf]; omega
                  · go_wp2
                    go_ret
                    exact ⟨Told.no _ _, rfl⟩
                · go_wp2
                  go_ret
                  exact ⟨Told.no _ _, rfl⟩
              · have HV : Hid (∀ X ∈ Vs, X.size ≤ 1048576) := hsh.all (by rw [HL2'.out]; omega)
                go_wp2
                go_ret
                exact ⟨Told.yes HK.out HV.out, rfl⟩
          · go_wp2
            go_ret
            exact ⟨Told.no _ _, rfl⟩
        · go_wp2
          go_ret
          exact ⟨Told.no _ _, rfl⟩
  · go_enter Tryd.func5, Tryd.ntmps5
    go_wp2
    go_ret
    exact ⟨Told.no _ _, rfl⟩
set_option maxHeartbeats 2000000 in
theorem bytes11 (v1 v2 : Value) (c : ByteArray) (hcm : c.size ≤ maxLen) (Ks Vs : List ByteArray) (w : World) (hm1 : Ks.length ≤ maxLen) (hm2 : Vs.length ≤ maxLen) (hs1 : ∀ X ∈ Ks, X.size ≤ maxLen) (hs2 : ∀ X ∈ Vs, X.size ≤ maxLen) (h1 : Strs w v1 Ks) (h2 : Strs w v2 Vs) :
    Calls Tryd.prog 11 #[v1, v2, .string c] w fun e w' => Told Ks Vs e ∧ w' = w := by
  obtain ⟨a1, b1, o1, c1, rfl, ha1, hc1⟩ := h1
  obtain ⟨a2, b2, o2, c2, rfl, ha2, hc2⟩ := h2
  have A1 : Hid (0 < Ks.length → a1 = some ⟨b1, o1, none⟩ ∧ b1 < w.heap.size) := ha1
  have A2 : Hid (0 < Vs.length → a2 = some ⟨b2, o2, none⟩ ∧ b2 < w.heap.size) := ha2
  have C1 : Hid (∀ (j : Nat) X, Ks[j]? = some X → w.cell? ⟨b1, o1 + j, none⟩ = some (.string X)) := hc1
  have C2 : Hid (∀ (j : Nat) X, Vs[j]? = some X → w.cell? ⟨b2, o2 + j, none⟩ = some (.string X)) := hc2
  have S1 : Hid (∀ X ∈ Ks, X.size ≤ maxLen) := hs1
  have S2 : Hid (∀ X ∈ Vs, X.size ≤ maxLen) := hs2
  clear ha1 ha2 hc1 hc2 hs1 hs2
  obtain ⟨L1, HL1⟩ : ∃ L, Ks.length = L := ⟨_, rfl⟩
  obtain ⟨L2, HL2⟩ : ∃ L, Vs.length = L := ⟨_, rfl⟩
  rw [HL1] at A1 hm1
  rw [HL2] at A2 hm2
  rw [HL1, HL2]
  have HL1' : Hid (Ks.length = L1) := HL1
  have HL2' : Hid (Vs.length = L2) := HL2
  clear HL1 HL2
  unfold maxLen at hm1 hm2 hcm
  by_cases t1 : L1 ≤ 1048576
  · go_enter Tryd.func11, Tryd.ntmps11
    go_wp2
    go_loop [7, 8] (fun z i => ∃ (k : Nat) (r : Int), k ≤ L1 ∧ i = .int .i64 k ∧ z = .int .i64 r ∧ 0 ≤ r ∧ r ≤ 1048576 ∧ Short Ks k) (fun _ i => L1 - (intOf i).toNat)
    case atStart => exact ⟨0, L1, Nat.zero_le _, rfl, by go_num, by omega, by omega, Short.zero _⟩
    case round =>
      obtain ⟨k, r, hk, rfl, rfl, hr0, hr1, hsh⟩ := hrel
      by_cases hlt : k < L1
      · obtain ⟨rfl, hb1'⟩ := A1.out (by omega)
        obtain ⟨X, hX⟩ : ∃ X, Ks[k]? = some X := ⟨_, List.getElem?_eq_getElem (by rw [HL1'.out]; exact hlt)⟩
        have g1 := C1.out k X hX
        have g2 := S1.out X (List.mem_of_getElem? hX)
        unfold maxLen at g2
        have HX : Hid (Ks[k]? = some X) := hX
        clear hX
        by_cases t2 : X.size ≤ 1048576
        · by_cases t3 : r + (X.size : Int) ≤ 1048576
          · go_wp2
            go_round
            case rel => exact ⟨k + 1, _, by omega, by go_num, rfl, by omega, by omega, hsh.succ HX.out t2⟩
            case measure => simp [intOf]; omega
          · go_wp2
            go_ret
            exact ⟨Told.no _ _, rfl⟩
        · go_wp2
          go_ret
          exact ⟨Told.no _ _, rfl⟩
      · have HK : Hid (∀ X ∈ Ks, X.size ≤ 1048576) := hsh.all (by rw [HL1'.out]; omega)
        clear hsh
        by_cases t4 : L2 ≤ 1048576
        · by_cases t5 : r + (L2 : Int) ≤ 1048576
          · go_wp2
            go_loop [7, 9] (fun z i => ∃ (k : Nat) (r : Int), k ≤ L2 ∧ i = .int .i64 k ∧ z = .int .i64 r ∧ 0 ≤ r ∧ r ≤ 1048576 ∧ Short Vs k) (fun _ i => L2 - (intOf i).toNat)
            case atStart => exact ⟨0, _, Nat.zero_le _, rfl, rfl, by omega, by omega, Short.zero _⟩
            case round =>
              obtain ⟨k, r, hk, rfl, rfl, hr0, hr1, hsh⟩ := hrel
              by_cases hlt : k < L2
              · obtain ⟨rfl, hb1'⟩ := A2.out (by omega)
                obtain ⟨X, hX⟩ : ∃ X, Vs[k]? = some X := ⟨_, List.getElem?_eq_getElem (by rw [HL2'.out]; exact hlt)⟩
                have g1 := C2.out k X hX
                have g2 := S2.out X (List.mem_of_getElem? hX)
                unfold maxLen at g2
                have HX : Hid (Vs[k]? = some X) := hX
                clear hX
                by_cases t2 : X.size ≤ 1048576
                · by_cases t3 : r + (X.size : Int) ≤ 1048576
                  · go_wp2
                    go_round
                    case rel => exact ⟨k + 1, _, by omega, by go_num, rfl, by omega, by omega, hsh.succ HX.out t2⟩
                    case measure => simp [intOf]; omega
                  · go_wp2
                    go_ret
                    exact ⟨Told.no _ _, rfl⟩
                · go_wp2
                  go_ret
                  exact ⟨Told.no _ _, rfl⟩
              · have HV : Hid (∀ X ∈ Vs, X.size ≤ 1048576) := hsh.all (by rw [HL2'.out]; omega)
                by_cases t6 : c.size ≤ 1048576
                · by_cases t7 : r + (c.size : Int) ≤ 1048576
                  · go_wp2
                    go_ret
                    exact ⟨Told.yes HK.out HV.out, rfl⟩
                  · go_wp2
                    go_ret
                    exact ⟨Told.no _ _, rfl⟩
                · go_wp2
                  go_ret
                  exact ⟨Told.no _ _, rfl⟩
          · go_wp2
            go_ret
            exact ⟨Told.no _ _, rfl⟩
        · go_wp2
          go_ret
          exact ⟨Told.no _ _, rfl⟩
  · go_enter Tryd.func11, Tryd.ntmps11
    go_wp2
    go_ret
    exact ⟨Told.no _ _, rfl⟩
end Go.Proofs.Qxb6618638aDoor.W
