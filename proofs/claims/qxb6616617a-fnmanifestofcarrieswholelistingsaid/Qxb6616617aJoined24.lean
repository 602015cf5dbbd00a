/-
  vsixB1Joined says yes at what strings.Join hands back.
-/
import Derived.Test.Qxb6616617aJoin
import Derived.Deep.Light
namespace Go.Proofs.Qxb6616617a.W
open Go.ChangeShapes Go.WideShapes Go.ChangeAt Go.RowKit
set_option linter.unusedVariables false

theorem bytes_at {s : ByteArray} {A B R : List UInt8} (h : s.data.toList = A ++ B ++ R) : s.extract A.length (A.length + B.length) = ⟨B.toArray⟩ := by
  apply ByteArray.ext
  apply Array.ext'
  simp [h, List.extract_eq_take_drop]

set_option maxRecDepth 100000 in
set_option maxHeartbeats 4000000 in
theorem joined24 {w : World} {v : Value} {Xs : List ByteArray} (c : UInt8) (h : Texts w v Xs) (hn : Xs.length ≤ 1048576) (hx : ∀ X ∈ Xs, X.size ≤ 1048576) :
    Calls Try.prog 24 #[.string (glue Xs c), v, .int .u8 c.toNat] w fun x w' => x = .returned (.bool true) ∧ w' = w := by
  obtain ⟨b, o, ⟨a, cp, hv, ha, _⟩, hc⟩ := h
  subst hv
  have hgl : (glue Xs c).size ≤ 140737488355328 := by
    have := glue_le Xs c hn hx
    have e : (glue Xs c).size = (Lib.join (Xs.map (·.data.toList)) [c]).length := by simp [glue, ByteArray.size]
    omega
  obtain ⟨n, hN⟩ : ∃ n, Xs.length = n := ⟨_, rfl⟩
  by_cases h0 : n = 0
  · have e0 : Xs = [] := List.length_eq_zero_iff.1 (by omega)
    subst e0
    rw [glue_nil]
    simp only [List.length_nil]
    clear ha hc hx hgl hn
    go_enter Try.func24, Try.ntmps24
    go_wp2
    go_ret
    exact ⟨rfl, rfl⟩
  · obtain ⟨rfl, hb⟩ := ha (by omega)
    obtain ⟨s, hs⟩ : ∃ s, glue Xs c = s := ⟨_, rfl⟩
    have GE : s.size = reach Xs n := by rw [← hs, ← hN]; exact glue_end Xs c
    rw [hs] at hgl ⊢
    rw [hN] at hn ⊢
    have HS := Hid.mk' hs
    have HC := Hid.mk' hc
    have HX := Hid.mk' hx
    have HN := Hid.mk' hN
    have HG := Hid.mk' GE
    clear ha hs hc hx hN GE
    rename_i hnone
    clear hnone
    go_enter Try.func24, Try.ntmps24
    go_upto_if 18 with fail
    go_loopw [7, 8] (fun p i wl => ∃ k : Nat, k ≤ n ∧ p = .int .i64 (reach Xs k) ∧ i = .int .i64 k ∧ wl = w) (fun p i _ => n - (intOf i).toNat)
    case atStart => exact ⟨0, Nat.zero_le _, by rw [reach_zero]; rfl, rfl, rfl⟩
    case round =>
      obtain ⟨k, hk, rfl, rfl, rfl⟩ := hrel
      by_cases hlt : k < n
      · obtain ⟨X, hX⟩ : ∃ X, Xs[k]? = some X := ⟨_, List.getElem?_eq_getElem (by rw [HN.out]; exact hlt)⟩
        have hcell := HC.out k X hX
        obtain ⟨A, R, hAR, hA⟩ := glue_at c hX
        have hst := reach_step hX
        rw [HS.out] at hAR
        have hsz : s.size = s.data.toList.length := Array.length_toList.symm
        have hXs : X.data.toList.length = X.size := Array.length_toList
        have hXb := HX.out X (List.mem_of_getElem? hX)
        have hlt' : (k : Int) < (n : Int) := by omega
        have hk00 : (0 : Int) ≤ (k : Int) := by omega
        have hr0 : (0 : Int) ≤ (reach Xs k : Int) := by omega
        by_cases hk0 : k = 0
        · rw [if_pos hk0] at hAR hst
          have hex := bytes_at (s := s) (A := A) (B := X.data.toList) (R := R) (by simpa using hAR)
          have hle : A.length + X.data.toList.length ≤ s.size := by rw [hsz, hAR]; simp
          rw [hA, hXs] at hex hle
          have hex' : s.extract (reach Xs k) (reach Xs k + X.size) = X := hex
          have hkz : ¬ ((0 : Int) < (k : Int)) := by omega
          have hle' : ¬ ((s.size : Int) - (reach Xs k : Int) < (X.size : Int)) := by omega
          have hb1 : (reach Xs k : Int) ≤ (reach Xs k : Int) + (X.size : Int) := by omega
          have hb2 : (reach Xs k : Int) + (X.size : Int) ≤ (s.size : Int) := by omega
          have HST := Hid.mk' hst
          clear hAR hA hX hex hle hsz hXs hst hk0
          go_wp2
          go_roundw
          case rel => exact ⟨k + 1, by omega, by rw [HST.out]; go_num, by go_num, trivial⟩
          case measure => go_light; simp [intOf]; omega
        · rw [if_neg hk0] at hAR hst
          have hex := bytes_at (s := s) (A := A ++ [c]) (B := X.data.toList) (R := R) (by simpa using hAR)
          have hle : A.length + 1 + X.data.toList.length ≤ s.size := by rw [hsz, hAR]; simp; omega
          have hget : s.data[A.length]? = some c := by rw [← Array.getElem?_toList, hAR]; simp
          rw [List.length_append, hXs] at hex
          rw [hA, hXs] at hle
          rw [hA] at hex hget
          have hex' : s.extract (reach Xs k + 1) (reach Xs k + 1 + X.size) = X := hex
          have hkz : (0 : Int) < (k : Int) := by omega
          have hge : ¬ ((s.size : Int) ≤ (reach Xs k : Int)) := by omega
          have hge2 : (reach Xs k : Int) < (s.size : Int) := by omega
          have hle' : ¬ ((s.size : Int) - ((reach Xs k : Int) + 1) < (X.size : Int)) := by omega
          have hb1 : (reach Xs k : Int) + 1 ≤ (reach Xs k : Int) + 1 + (X.size : Int) := by omega
          have hb2 : (reach Xs k : Int) + 1 + (X.size : Int) ≤ (s.size : Int) := by omega
          have HST := Hid.mk' hst
          have hidx : reach Xs k < s.size := by omega
          have hgc : s[reach Xs k] = c := by
            have h1 : s.data[reach Xs k]? = some (s.data[reach Xs k]'hidx) := Array.getElem?_eq_getElem hidx
            rw [hget] at h1
            exact (Option.some.inj h1).symm
          have hsl : ∀ wx : World, (Instr.slice 9 (.string s) (some (.int .i64 ((reach Xs k : Int) + 1))) (some (.int .i64 ((reach Xs k : Int) + 1 + (X.size : Int)))) none).run Try.prog wx = .ok (.string X) wx := fun wx => by
            have := run_slice_string (P := Try.prog) wx 9 s .i64 .i64 ((reach Xs k : Int) + 1) ((reach Xs k : Int) + 1 + (X.size : Int)) Try.underlying9 (by omega) (by omega) (by omega)
            rw [this, show ((reach Xs k : Int) + 1).toNat = reach Xs k + 1 by omega, show ((reach Xs k : Int) + 1 + (X.size : Int)).toNat = reach Xs k + 1 + X.size by omega, hex']
          clear hAR hA hX hex hle hsz hXs hst hk0 hget hex' 
          go_wp2
          go_roundw
          case rel => exact ⟨k + 1, by omega, by rw [HST.out]; go_num, by go_num, trivial⟩
          case measure => go_light; simp [intOf]; omega
      · have hkn : k = n := by omega
        subst hkn
        have := HG.out
        go_wp2
        go_ret
        exact ⟨by simp, rfl⟩
end Go.Proofs.Qxb6616617a.W
