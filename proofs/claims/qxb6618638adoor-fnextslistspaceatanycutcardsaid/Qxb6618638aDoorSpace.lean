/-
  The walk of zzSpaceAt.
-/
import Derived.Test.Qxb6618638aDoorRows
import Derived.Test.Qxb6618638aDoorPlain
import Derived.WalkKit
import Derived.ProofKit
import Derived.ShutString
import Derived.BigQuiet
import Derived.Deep.QuietTactic
namespace Go.Proofs.Qxb6618638aDoor.W
open Go.ChangeShapes Go.WideShapes Go.ChangeAt Go.RowKit
set_option linter.unusedVariables false

theorem ret_int {k : IntKind} {a b : Int} (h : a = b) : Ending.returned (.int k a) = .returned (.int k b) := by rw [h]

theorem drop_at (s : ByteArray) (k : Nat) (h : k < s.size) : s.data.toList.drop k = s[k] :: s.data.toList.drop (k + 1) := by
  have : k < s.data.toList.length := by simpa using h
  rw [List.drop_eq_getElem_cons this]
  rfl

theorem hs_one (s : ByteArray) (k : Nat) (h : k < s.size) (h1 : s.size ≤ k + 1) : Lib.headSpace (s.data.toList.drop k) = Plain.hsN 1 s[k].toNat 0 0 := by
  rw [drop_at s k h, List.drop_of_length_le (by simpa using h1)]
  exact Plain.head1 _ _ _
theorem hs_two (s : ByteArray) (k : Nat) (h : k + 1 < s.size) (h1 : s.size ≤ k + 2) : Lib.headSpace (s.data.toList.drop k) = Plain.hsN 2 s[k].toNat s[k + 1].toNat 0 := by
  rw [drop_at s k (by omega), drop_at s (k + 1) h, List.drop_of_length_le (by simpa using h1)]
  exact Plain.head2 _ _ _
theorem hs_three (s : ByteArray) (k : Nat) (h : k + 2 < s.size) : Lib.headSpace (s.data.toList.drop k) = Plain.hsN 3 s[k].toNat s[k + 1].toNat s[k + 2].toNat := by
  rw [drop_at s k (by omega), drop_at s (k + 1) (by omega), drop_at s (k + 1 + 1) (by omega)]
  exact Plain.head3 _ _ _ _ _ (Nat.le_refl _)

set_option maxHeartbeats 800000 in
theorem spaceAt1 (s : ByteArray) (k : Nat) (w : World) (hs : s.size ≤ 2000000) (hk : k < s.size) (h1 : s.size ≤ k + 1) :
    Calls Tryd.prog 14 #[.string s, .int .i64 k] w fun e w' => e = .returned (.int .i64 (Lib.headSpace (s.data.toList.drop k))) ∧ ∃ n, w' = w.drewN n := by
  rw [hs_one s k hk h1]
  go_enter Tryd.func14, Tryd.ntmps14
  go_wp2
  all_goals go_ret
  all_goals refine ⟨ret_int ?_, 0, rfl⟩
  all_goals
    unfold Plain.hsN
    try simp only [beq_iff_eq, beq_eq_false_iff_ne] at *
    repeat' (first | omega | split)
set_option maxHeartbeats 800000 in
theorem spaceAt2 (s : ByteArray) (k : Nat) (w : World) (hs : s.size ≤ 2000000) (hk : k + 1 < s.size) (h1 : s.size ≤ k + 2) :
    Calls Tryd.prog 14 #[.string s, .int .i64 k] w fun e w' => e = .returned (.int .i64 (Lib.headSpace (s.data.toList.drop k))) ∧ ∃ n, w' = w.drewN n := by
  rw [hs_two s k hk h1]
  go_enter Tryd.func14, Tryd.ntmps14
  go_wp2
  all_goals go_ret
  all_goals refine ⟨ret_int ?_, 0, rfl⟩
  all_goals
    unfold Plain.hsN
    try simp only [beq_iff_eq, beq_eq_false_iff_ne] at *
    repeat' (first | omega | split)
set_option maxHeartbeats 2000000 in
theorem spaceAt3 (s : ByteArray) (k : Nat) (w : World) (hs : s.size ≤ 2000000) (hk : k + 2 < s.size) :
    Calls Tryd.prog 14 #[.string s, .int .i64 k] w fun e w' => e = .returned (.int .i64 (Lib.headSpace (s.data.toList.drop k))) ∧ ∃ n, w' = w.drewN n := by
  rw [hs_three s k hk]
  have hk1 : k + 1 < s.size := by omega
  have hk0 : k < s.size := by omega
  go_enter Tryd.func14, Tryd.ntmps14
  go_wp2
  all_goals go_ret
  all_goals refine ⟨ret_int ?_, 0, rfl⟩
  all_goals
    unfold Plain.hsN
    try simp only [beq_iff_eq, beq_eq_false_iff_ne] at *
    repeat' (first | omega | split)

/-- THE CONTRACT OF zzSpaceAt. -/
theorem spaceAt (s : ByteArray) (k : Nat) (w : World) (hs : s.size ≤ 2000000) (hk : k < s.size) :
    Calls Tryd.prog 14 #[.string s, .int .i64 k] w fun e w' => e = .returned (.int .i64 (Lib.headSpace (s.data.toList.drop k))) ∧ ∃ n, w' = w.drewN n := by
  by_cases h1 : s.size ≤ k + 1
  · exact spaceAt1 s k w hs hk h1
  · by_cases h2 : s.size ≤ k + 2
    · exact spaceAt2 s k w hs (by omega) h2
    · exact spaceAt3 s k w hs (by omega)
end Go.Proofs.Qxb6618638aDoor.W
