/-
  The walks of seat b6618537a: notUTF8, ZZnotUTF8, zzHasPrefix, the two bounds, and the two laws.
-/
import Derived.Test.Qxb6618537aRows
import Derived.WalkKit
import Derived.ProofKit
import Derived.ShutString
import Derived.BigQuiet
import Derived.Deep.QuietTactic
import Derived.Deep.RegionWith
namespace Go.Proofs.Qxb6618537a.Walks
open Go.ChangeShapes Go.WideShapes Go.ChangeAt Go.RowKit
open Go.ChangeMaps (open_string shut_string)
set_option linter.unusedVariables false

theorem ret_bool {a b : Bool} (h : a = b) : Ending.returned (.bool a) = .returned (.bool b) := by rw [h]

def sfx : ByteArray := { data := #[32, 105, 115, 32, 110, 111, 116, 32, 85, 84, 70, 45, 56, 44, 32, 119, 104, 105, 99, 104, 32, 97, 32, 74, 83, 79, 78, 32, 115, 116, 114, 105, 110, 103, 32, 99, 97, 110, 110, 111, 116, 32, 104, 111, 108, 100] }

theorem sfx_size : sfx.size = 46 := rfl

set_option maxHeartbeats 400000 in
theorem notUTF8 (a : ByteArray) (w : World) (h : a.size ≤ 2000000) :
    Calls Try.prog 11 #[.string a] w fun e w' => e = .returned (.string (a ++ sfx)) ∧ w' = w := by
  go_enter Try.func11, Try.ntmps11
  go_wp2
  go_ret
  exact ⟨rfl, rfl⟩
set_option maxHeartbeats 400000 in
theorem zzNotUTF8 (a : ByteArray) (w : World) (h : a.size ≤ 2000000) :
    Calls Try.prog 7 #[.string a] w fun e w' => e = .returned (.string (a ++ sfx)) ∧ w' = w := by
  go_enter Try.func7, Try.ntmps7
  go_wp2_with (go_at_call 11; refine (notUTF8 _ _ h).mono ?_; rintro e w' ⟨rfl, rfl⟩)
  go_ret
  exact ⟨rfl, rfl⟩

set_option maxHeartbeats 400000 in
theorem bytes6 (a0 a1 : ByteArray) (w0 : a0.size ≤ maxLen) (w1 : a1.size ≤ maxLen) (w : World) :
    Calls Try.prog 6 #[.string a0, .string a1] w fun e w' => e = .returned (.bool (decide (a0.size + a1.size ≤ 1048576))) ∧ w' = w := by
  unfold maxLen at w0 w1
  go_enter Try.func6, Try.ntmps6
  go_wp2
  all_goals go_ret
  all_goals exact ⟨ret_bool (by simp; omega), rfl⟩

set_option maxHeartbeats 400000 in
theorem bytes9 (a0 a1 : ByteArray) (w0 : a0.size ≤ maxLen) (w1 : a1.size ≤ maxLen) (w : World) :
    Calls Try.prog 9 #[.string a0, .string a1] w fun e w' => e = .returned (.bool (decide (a0.size + a1.size ≤ 1048576))) ∧ w' = w := by
  unfold maxLen at w0 w1
  go_enter Try.func9, Try.ntmps9
  go_wp2
  all_goals go_ret
  all_goals exact ⟨ret_bool (by simp; omega), rfl⟩

theorem app_get (p t : ByteArray) (k : Nat) (h : k < p.size) (h' : k < (p ++ t).size) : (p ++ t)[k] = p[k] := by
  rw [ByteArray.getElem_append_left h]

set_option maxHeartbeats 400000 in
theorem hasPrefix (s p : ByteArray) (w : World) (hs : s.size ≤ maxLen) (hp : p.size ≤ s.size) (heq : ∀ k (h : k < p.size), s[k] = p[k]) :
    Calls Try.prog 8 #[.string s, .string p] w fun e w' => e = .returned (.bool true) ∧ ∃ n, w' = w.drewN n := by
  unfold maxLen at hs
  have hlt : ¬ s.size < p.size := by omega
  have H : Hid (∀ k (h : k < p.size), s[k] = p[k]) := heq
  clear heq
  go_enter Try.func8, Try.ntmps8
  go_wp2
  go_loopw [5] (fun i w' => ∃ k : Nat, k ≤ p.size ∧ i = .int .i64 k ∧ ∃ n, w' = w.drewN n) (fun i _ => p.size - (intOf i).toNat)
  case atStart => exact ⟨0, Nat.zero_le _, rfl, 0, rfl⟩
  case round =>
    obtain ⟨k, hk, rfl, n, rfl⟩ := hrel
    by_cases hlt : k < p.size
    · have e := H.out k hlt
      have hks : k < s.size := by omega
      go_wp2
      go_quiet (fail)
      go_wp2
      go_roundw
      case rel => exact ⟨k + 1, by omega, by go_num, n + nq, rfl⟩
      case measure => simp [intOf]; omega
    · go_wp2
      go_ret
      exact ⟨rfl, n, rfl⟩

theorem app_beq (a b c : ByteArray) : ((a ++ c).toList == (b ++ c).toList) = (a.toList == b.toList) := by
  simp only [ByteArray.toList_eq]
  rw [Bool.eq_iff_iff]
  simp
theorem ext_app (a c : ByteArray) (n : Nat) (h : n = a.size + c.size) : (a ++ c).extract a.size n = c := by
  subst h
  apply ByteArray.ext
  obtain ⟨⟨x⟩⟩ := a
  obtain ⟨⟨y⟩⟩ := c
  simp [ByteArray.size]
theorem grown_drewN {W w' : World} (h : Grown W w') (n : Nat) : Grown W (w'.drewN n) := h

theorem size_app (a b : ByteArray) : (a ++ b).size = a.size + b.size := ByteArray.size_append

set_option maxHeartbeats 400000 in
theorem walk3 (a0 : ByteArray) (a1 : ByteArray) (w0 : a0.size ≤ maxLen) (w1 : a1.size ≤ maxLen) (w : World) :
    Calls Try.prog 3 #[.string a0, .string a1] w fun e w' => e = .returned (.bool true) ∧ Grown w w' := by
  have u0 := w0
  have u1 := w1
  unfold maxLen at u0 u1
  by_cases h : a0.size + a1.size ≤ 1048576
  · have hd : decide (a0.size + a1.size ≤ 1048576) = true := by simpa using h
    by_cases h0 : a0.size ≤ 524288
    · by_cases h1 : a1.size ≤ 524288
      · have hs : (a1 ++ sfx).size = a1.size + 46 := size_app _ _
        have hs2 : (a0 ++ a1).size = a0.size + a1.size := size_app _ _
        have hassoc : a0 ++ a1 ++ sfx = a0 ++ (a1 ++ sfx) := ByteArray.append_assoc
        go_enter Try.func3, Try.ntmps3
        go_wp2_with (first | (go_at_call 6; refine (bytes6 _ _ w0 w1 _).mono ?_; rintro e w' ⟨rfl, rfl⟩) | (go_at_call 7; refine (zzNotUTF8 _ _ (by omega)).mono ?_; rintro e w' ⟨rfl, rfl⟩) | (go_at_call 8; refine (hasPrefix _ _ _ (by unfold maxLen; omega) (by omega) (fun k hk => app_get _ _ k hk (by omega))).mono ?_; rintro e w' ⟨rfl, n, rfl⟩))
        go_ret
        exact ⟨rfl, grown_drewN (Grown.refl _) _⟩
      · go_enter Try.func3, Try.ntmps3
        go_wp2_with (go_at_call 6; refine (bytes6 _ _ w0 w1 _).mono ?_; rintro e w' ⟨rfl, rfl⟩)
        go_ret
        exact ⟨rfl, Grown.refl _⟩
    · go_enter Try.func3, Try.ntmps3
      go_wp2_with (go_at_call 6; refine (bytes6 _ _ w0 w1 _).mono ?_; rintro e w' ⟨rfl, rfl⟩)
      go_ret
      exact ⟨rfl, Grown.refl _⟩
  · have hd : decide (a0.size + a1.size ≤ 1048576) = false := by simpa using h
    go_enter Try.func3, Try.ntmps3
    go_wp2_with (go_at_call 6; refine (bytes6 _ _ w0 w1 _).mono ?_; rintro e w' ⟨rfl, rfl⟩)
    go_ret
    exact ⟨rfl, Grown.refl _⟩

set_option maxHeartbeats 400000 in
theorem walk4 (a0 : ByteArray) (a1 : ByteArray) (w0 : a0.size ≤ maxLen) (w1 : a1.size ≤ maxLen) (w : World) :
    Calls Try.prog 4 #[.string a0, .string a1] w fun e w' => e = .returned (.bool true) ∧ Grown w w' := by
  have u0 := w0
  have u1 := w1
  unfold maxLen at u0 u1
  by_cases h : a0.size + a1.size ≤ 1048576
  · have hd : decide (a0.size + a1.size ≤ 1048576) = true := by simpa using h
    by_cases h0 : a0.size ≤ 524288
    · by_cases h1 : a1.size ≤ 524288
      · have hs : (a1 ++ sfx).size = a1.size + 46 := size_app _ _
        have hs2 : (a0 ++ sfx).size = a0.size + 46 := size_app _ _
        have p0 : ∀ k (h : k < a0.size), (a0 ++ sfx)[k]'(by omega) = a0[k] := fun k hk => app_get _ _ k hk (by omega)
        have p1 : ∀ k (h : k < a1.size), (a1 ++ sfx)[k]'(by omega) = a1[k] := fun k hk => app_get _ _ k hk (by omega)
        have P0 : Hid (∀ k (h : k < a0.size), (a0 ++ sfx)[k]'(by omega) = a0[k]) := p0
        have P1 : Hid (∀ k (h : k < a1.size), (a1 ++ sfx)[k]'(by omega) = a1[k]) := p1
        clear p0 p1
        have hE : ((a0 ++ sfx).toList == (a1 ++ sfx).toList) = (a0.toList == a1.toList) := app_beq a0 a1 sfx
        go_enter Try.func4, Try.ntmps4
        go_wp2_with (first | (go_at_call 9; refine (bytes9 _ _ w0 w1 _).mono ?_; rintro e w' ⟨rfl, rfl⟩) | (go_at_call 7; refine (zzNotUTF8 _ _ (by omega)).mono ?_; rintro e w' ⟨rfl, rfl⟩) | (go_at_call_of 8 (Value.string (a0 ++ sfx)); refine (hasPrefix _ _ _ (by unfold maxLen; omega) (by omega) P0.out).mono ?_; rintro e w' ⟨rfl, n, rfl⟩) | (go_at_call_of 8 (Value.string (a1 ++ sfx)); refine (hasPrefix _ _ _ (by unfold maxLen; omega) (by omega) P1.out).mono ?_; rintro e w' ⟨rfl, n, rfl⟩))
        have hx0 : (a0 ++ sfx).extract a0.size (a0.size + 46) = sfx := ext_app _ _ _ rfl
        have hx1 : (a1 ++ sfx).extract a1.size (a1.size + 46) = sfx := ext_app _ _ _ rfl
        go_quiet (fail)
        go_wp2
        go_ret
        exact ⟨rfl, grown_drewN (Grown.refl _) _⟩
      · go_enter Try.func4, Try.ntmps4
        go_wp2_with (go_at_call 9; refine (bytes9 _ _ w0 w1 _).mono ?_; rintro e w' ⟨rfl, rfl⟩)
        go_ret
        exact ⟨rfl, Grown.refl _⟩
    · go_enter Try.func4, Try.ntmps4
      go_wp2_with (go_at_call 9; refine (bytes9 _ _ w0 w1 _).mono ?_; rintro e w' ⟨rfl, rfl⟩)
      go_ret
      exact ⟨rfl, Grown.refl _⟩
  · have hd : decide (a0.size + a1.size ≤ 1048576) = false := by simpa using h
    go_enter Try.func4, Try.ntmps4
    go_wp2_with (go_at_call 9; refine (bytes9 _ _ w0 w1 _).mono ?_; rintro e w' ⟨rfl, rfl⟩)
    go_ret
    exact ⟨rfl, Grown.refl _⟩
end Go.Proofs.Qxb6618537a.Walks
