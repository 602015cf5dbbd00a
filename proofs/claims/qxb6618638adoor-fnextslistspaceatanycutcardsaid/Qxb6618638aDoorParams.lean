/-
  The walk of zzParams.
-/
import Derived.Test.Qxb6618638aDoorBytes
import Derived.RegionTactic
import Derived.Carry
namespace Go.Proofs.Qxb6618638aDoor.W
open Go.ChangeShapes Go.WideShapes Go.ChangeAt Go.RowKit Go.Maps
set_option linter.unusedVariables false

theorem law : Keyed Tryd.prog 9 := string_keyed Tryd.underlying9

/-- A map's datum. -/
abbrev MD := DataW Unit

/-- Every element is a short string. -/
def Elems (D : MD) : Prop := ∀ (kl : Lit) (l : List UInt8), D.atKey kl (.lit (.string [])) = .lit (.string l) → l.length ≤ 1048576

theorem Elems.empty : Elems (.map []) := by
  intro kl l h
  have : (DataW.map (H := Unit) []).atKey kl (.lit (.string [])) = .lit (.string []) := rfl
  rw [this] at h
  cases h
  simp

theorem Elems.put {D : MD} (h : Elems D) (hD : IsMap D) {K V : List UInt8} (hV : V.length ≤ 1048576) : Elems (D.put (.string K) (.lit (.string V))) := by
  intro kl l hl
  by_cases e : kl = .string K
  · subst e
    rw [atKey_put_same hD (by trivial)] at hl
    cases hl
    exact hV
  · rw [atKey_put_other e] at hl
    exact h kl l hl

theorem run_makeMap_hint (n : Int) (w : World) : (Instr.makeMap 25 (some (.int .i64 n))).run Tryd.prog w = .ok (.map (some w.heap.size)) (w.alloc (.map #[] 0)) := by
  simp [Instr.makeMap, run_underlying Tryd.underlying25]
  rfl

set_option maxHeartbeats 1000000 in
theorem params (v1 v2 : Value) (Ks Vs : List ByteArray) (w : World) (hm1 : Ks.length ≤ 65536) (hm2 : Vs.length ≤ 65536) (hs1 : ∀ X ∈ Ks, X.size ≤ 1048576) (hs2 : ∀ X ∈ Vs, X.size ≤ 1048576) (h1 : Strs w v1 Ks) (h2 : Strs w v2 Vs) :
    Calls Tryd.prog 7 #[v1, v2] w fun e w' => ∃ D : MD, e = .returned (.map (some w.heap.size)) ∧ Elems D ∧ w'.ownsMap Tryd.prog 9 (plainElem Tryd.prog 9) w.heap.size 65536 D ∧ Below w.heap.size w w' := by
  obtain ⟨a1, b1, o1, c1, rfl, ha1, hc1⟩ := h1
  obtain ⟨a2, b2, o2, c2, rfl, ha2, hc2⟩ := h2
  have A1 : Hid (0 < Ks.length → a1 = some ⟨b1, o1, none⟩ ∧ b1 < w.heap.size) := ha1
  have A2 : Hid (0 < Vs.length → a2 = some ⟨b2, o2, none⟩ ∧ b2 < w.heap.size) := ha2
  have C1 : Hid (∀ (j : Nat) X, Ks[j]? = some X → w.cell? ⟨b1, o1 + j, none⟩ = some (.string X)) := hc1
  have C2 : Hid (∀ (j : Nat) X, Vs[j]? = some X → w.cell? ⟨b2, o2 + j, none⟩ = some (.string X)) := hc2
  have S1 : Hid (∀ X ∈ Ks, X.size ≤ 1048576) := hs1
  have S2 : Hid (∀ X ∈ Vs, X.size ≤ 1048576) := hs2
  clear ha1 ha2 hc1 hc2 hs1 hs2
  obtain ⟨L1, HL1⟩ : ∃ L, Ks.length = L := ⟨_, rfl⟩
  obtain ⟨L2, HL2⟩ : ∃ L, Vs.length = L := ⟨_, rfl⟩
  rw [HL1] at A1 hm1
  rw [HL2] at A2 hm2
  rw [HL1, HL2]
  have HL1' : Hid (Ks.length = L1) := HL1
  have HL2' : Hid (Vs.length = L2) := HL2
  clear HL1 HL2
  have hmm := run_makeMap_hint
  obtain ⟨N, HN⟩ : ∃ N : Nat, N = min L1 L2 := ⟨_, rfl⟩
  have hN : N ≤ 65536 := by omega
  have B1 : Hid (0 < N → a1 = some ⟨b1, o1, none⟩ ∧ b1 < w.heap.size) := fun h => A1.out (by omega)
  have B2 : Hid (0 < N → a2 = some ⟨b2, o2, none⟩ ∧ b2 < w.heap.size) := fun h => A2.out (by omega)
  have M1 : Hid (N ≤ Ks.length) := by have := HL1'.out; show N ≤ Ks.length; omega
  have M2 : Hid (N ≤ Vs.length) := by have := HL2'.out; show N ≤ Vs.length; omega
  clear A1 A2 HL1' HL2'
  by_cases hlt : L2 < L1
  · obtain rfl : L2 = N := by omega
    have hle : L2 ≤ L1 := by omega
    clear HN
    go_enter Tryd.func7, Tryd.ntmps7
    go_wp2
    go_loopw [7] (fun i wx => ∃ (k : Nat) (D : MD), k ≤ L2 ∧ i = .int .i64 k ∧ Elems D ∧ wx.ownsMap Tryd.prog 9 (plainElem Tryd.prog 9) w.heap.size k D ∧ Below w.heap.size w wx) (fun i _ => L2 - (intOf i).toNat)
    case atStart => exact ⟨0, .map [], Nat.zero_le _, rfl, Elems.empty, World.ownsMap_made _ _ _ _, (Below.refl _ _).alloc (Nat.le_refl _) _⟩
    case round =>
      obtain ⟨k, D, hk, rfl, hel, hown, hbel⟩ := hrel
      by_cases hk' : k < L2
      · obtain ⟨rfl, hb1⟩ := B1.out (by omega)
        obtain ⟨rfl, hb2⟩ := B2.out (by omega)
        obtain ⟨K, hK⟩ : ∃ X, Ks[k]? = some X := ⟨_, List.getElem?_eq_getElem (Nat.lt_of_lt_of_le hk' M1.out)⟩
        obtain ⟨V, hV⟩ : ∃ X, Vs[k]? = some X := ⟨_, List.getElem?_eq_getElem (Nat.lt_of_lt_of_le hk' M2.out)⟩
        have g1 : wr.cell? ⟨b1, o1 + k, none⟩ = some (.string K) := (hbel.cell (p := ⟨b1, o1 + k, none⟩) hb1).trans (C1.out k K hK)
        have g2 : wr.cell? ⟨b2, o2 + k, none⟩ = some (.string V) := (hbel.cell (p := ⟨b2, o2 + k, none⟩) hb2).trans (C2.out k V hV)
        have s1 := S1.out K (List.mem_of_getElem? hK)
        have s2 := S2.out V (List.mem_of_getElem? hV)
        obtain ⟨w1, hst, hown1, hturn⟩ := World.ownsMap.store (w := wr.drew) (t := 25) (e := 9) hown.drew law Tryd.underlying25 (by unfold maxLen; omega) (Go.WideMaps.keyOf_string_mk Tryd.underlying9 (s := K) (by unfold maxLen; omega)) (plainElem_string Tryd.underlying9 (s := V) (by unfold maxLen; omega))
        have X1 : Hid (w1.ownsMap Tryd.prog 9 (plainElem Tryd.prog 9) w.heap.size (k + 1) (D.put (.string K.data.toList) (.lit (.string V.data.toList))) ∧ wr.drew.mapTurned w1 w.heap.size) := ⟨hown1, hturn⟩
        have X2 : Hid (Elems D ∧ wr.ownsMap Tryd.prog 9 (plainElem Tryd.prog 9) w.heap.size k D ∧ Below w.heap.size w wr) := ⟨hel, hown, hbel⟩
        clear hown1 hturn hel hown hbel hK hV
        go_wp2
        go_region
        all_goals go_wp2
        go_roundw
        case rel => exact ⟨k + 1, _, by omega, by go_num, X2.out.1.put X2.out.2.1.isMap (by simpa using s2), X1.out.1, by exact Below.grown (w := wr.drew) (below_drewN X2.out.2.2 1) X1.out.2.grown X2.out.2.2.size (fun j hj => by cases hj; exact Nat.le_refl _)⟩
        case measure => simp [intOf]; omega
      · go_wp2
        go_ret
        exact ⟨D, rfl, hel, hown.mono (by omega), hbel⟩
  · obtain rfl : L1 = N := by omega
    have hle : L1 ≤ L2 := by omega
    clear HN
    go_enter Tryd.func7, Tryd.ntmps7
    go_wp2
    go_loopw [7] (fun i wx => ∃ (k : Nat) (D : MD), k ≤ L1 ∧ i = .int .i64 k ∧ Elems D ∧ wx.ownsMap Tryd.prog 9 (plainElem Tryd.prog 9) w.heap.size k D ∧ Below w.heap.size w wx) (fun i _ => L1 - (intOf i).toNat)
    case atStart => exact ⟨0, .map [], Nat.zero_le _, rfl, Elems.empty, World.ownsMap_made _ _ _ _, (Below.refl _ _).alloc (Nat.le_refl _) _⟩
    case round =>
      obtain ⟨k, D, hk, rfl, hel, hown, hbel⟩ := hrel
      by_cases hk' : k < L1
      · obtain ⟨rfl, hb1⟩ := B1.out (by omega)
        obtain ⟨rfl, hb2⟩ := B2.out (by omega)
        obtain ⟨K, hK⟩ : ∃ X, Ks[k]? = some X := ⟨_, List.getElem?_eq_getElem (Nat.lt_of_lt_of_le hk' M1.out)⟩
        obtain ⟨V, hV⟩ : ∃ X, Vs[k]? = some X := ⟨_, List.getElem?_eq_getElem (Nat.lt_of_lt_of_le hk' M2.out)⟩
        have g1 : wr.cell? ⟨b1, o1 + k, none⟩ = some (.string K) := (hbel.cell (p := ⟨b1, o1 + k, none⟩) hb1).trans (C1.out k K hK)
        have g2 : wr.cell? ⟨b2, o2 + k, none⟩ = some (.string V) := (hbel.cell (p := ⟨b2, o2 + k, none⟩) hb2).trans (C2.out k V hV)
        have s1 := S1.out K (List.mem_of_getElem? hK)
        have s2 := S2.out V (List.mem_of_getElem? hV)
        obtain ⟨w1, hst, hown1, hturn⟩ := World.ownsMap.store (w := wr.drew) (t := 25) (e := 9) hown.drew law Tryd.underlying25 (by unfold maxLen; omega) (Go.WideMaps.keyOf_string_mk Tryd.underlying9 (s := K) (by unfold maxLen; omega)) (plainElem_string Tryd.underlying9 (s := V) (by unfold maxLen; omega))
        have X1 : Hid (w1.ownsMap Tryd.prog 9 (plainElem Tryd.prog 9) w.heap.size (k + 1) (D.put (.string K.data.toList) (.lit (.string V.data.toList))) ∧ wr.drew.mapTurned w1 w.heap.size) := ⟨hown1, hturn⟩
        have X2 : Hid (Elems D ∧ wr.ownsMap Tryd.prog 9 (plainElem Tryd.prog 9) w.heap.size k D ∧ Below w.heap.size w wr) := ⟨hel, hown, hbel⟩
        clear hown1 hturn hel hown hbel hK hV
        go_wp2
        go_region
        all_goals go_wp2
        go_roundw
        case rel => exact ⟨k + 1, _, by omega, by go_num, X2.out.1.put X2.out.2.1.isMap (by simpa using s2), X1.out.1, by exact Below.grown (w := wr.drew) (below_drewN X2.out.2.2 1) X1.out.2.grown X2.out.2.2.size (fun j hj => by cases hj; exact Nat.le_refl _)⟩
        case measure => simp [intOf]; omega
      · go_wp2
        go_ret
        exact ⟨D, rfl, hel, hown.mono (by omega), hbel⟩
end Go.Proofs.Qxb6618638aDoor.W
