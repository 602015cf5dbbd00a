/-
  The walk of zzFields: the words by bytes.
-/
import Derived.Test.Qxb6618638aDoorSpace
import Derived.Maps.Own
import Derived.Handy
namespace Go.Proofs.Qxb6618638aDoor.W
open Go.ChangeShapes Go.WideShapes Go.ChangeAt Go.RowKit
set_option linter.unusedVariables false

/-- A word as the program holds it. -/
def encS (x : List UInt8) : Value := Value.string ⟨x.toArray⟩

theorem info9 : (Tryd.prog.info? 9).map (fun i => (i.zero, i.size, i.bytes)) = some (some (.string ByteArray.empty), 1, 16) := by kernel_rfl

theorem Hid.mk' {p : Prop} (h : p) : Hid p := h

theorem below_drewN {B : Nat} {a w : World} (h : Below B a w) (n : Nat) : Below B a (w.drewN n) := h.trans ⟨rfl, rfl, rfl, Nat.le_refl _, fun _ _ => rfl⟩

theorem one_str (x : ByteArray) : ∀ u ∈ [Value.string x], u.oneCell' = true := by
  intro u hu
  simp at hu
  subst hu
  rfl

theorem extract_enc (s : ByteArray) (a k : Nat) : Value.string (s.extract a k) = encS ((s.data.toList.take k).drop a) := by
  unfold encS
  congr 1
  apply ByteArray.ext
  apply Array.toList_inj.1
  simp
  rw [List.drop_take]

theorem cell_new (w : World) (x : Value) (t : TypeId) : ∀ j u, [x][j]? = some u → (w.alloc (.cells #[x] t)).cell? ((⟨w.heap.size, 0, none⟩ : Addr).add j) = some u := by
  intro j u hu
  match j with
  | 0 => simp at hu; subst hu; simp [go_sem]
  | j + 1 => simp at hu

theorem take_cur (l : List UInt8) (a k : Nat) (h : k < l.length) (ha : a ≤ k) : (l.take (k + 1)).drop a = (l.take k).drop a ++ [l[k]] := by
  rw [List.take_succ_eq_append_getElem h, List.drop_append_of_le_length (by simp; omega)]

set_option maxHeartbeats 1000000 in
theorem zzFields (s : ByteArray) (w : World) (hs : s.size ≤ 2000000) :
    Calls Tryd.prog 10 #[.string s] w fun e w' => ∃ v, e = .returned v ∧ w'.ownsRow w.heap.size 9 1 v (Lib.fieldsD s.data.toList).length ((Lib.fieldsD s.data.toList).map encS) ∧ Below w.heap.size w w' := by
  obtain ⟨i0, hi, hz0, hz1, hz2⟩ := info_parts info9
  go_enter Tryd.func10, Tryd.ntmps10
  go_wp2
  go_loopw [3, 4, 5] (fun words start i wx => ∃ (k : Nat) (a : Int) (cur : List UInt8) (ws : List (List UInt8)), k ≤ s.size ∧ i = .int .i64 k ∧ start = .int .i64 a ∧ -1 ≤ a ∧ a ≤ k ∧ Hid ((a = -1 ∧ cur = []) ∨ (0 ≤ a ∧ a < k ∧ cur = (s.data.toList.take k).drop a.toNat)) ∧
      Hid (ws ++ Plain.rest s.data.toList cur k = Lib.fieldsD s.data.toList) ∧ ws.length ≤ k ∧ wx.ownsRow w.heap.size 9 1 words ws.length (ws.map encS) ∧ Below w.heap.size w wx) (fun _ _ i _ => s.size - (intOf i).toNat)
  case atStart => exact ⟨0, -1, [], [], Nat.zero_le _, rfl, rfl, by omega, by omega, Or.inl ⟨rfl, rfl⟩, by rw [Plain.rest_start]; rfl, Nat.le_refl _, World.ownsRow_nil _ _ _ _, Below.refl _ _⟩
  case round =>
    obtain ⟨k, a, cur, ws, hk, rfl, rfl, ha0, hak, HC, HI, hwl, hrow, hb⟩ := hrel
    have hl : s.data.toList.length = s.size := by simp
    by_cases hlt : k < s.size
    · have hkl : k < s.data.toList.length := by omega
      by_cases h0 : Lib.headSpace (s.data.toList.drop k) = 0
      · have HN : Hid (ws ++ Plain.rest s.data.toList (cur ++ [s.data.toList[k]]) (k + 1) = Lib.fieldsD s.data.toList) := by
          have := HI.out
          rw [Plain.rest_byte _ _ _ hkl h0] at this
          exact this
        by_cases hn : a < 0
        · have HE : Hid (cur ++ [s.data.toList[k]] = (s.data.toList.take (k + 1)).drop k) := by
            rcases HC.out with ⟨_, rfl⟩ | ⟨h, _⟩
            · have := take_cur s.data.toList k k hkl (Nat.le_refl _)
              show [s.data.toList[k]] = _
              rw [this]
              simp
            · omega
          go_wp2_with (go_at_call 14; refine (spaceAt s k _ hs hlt).mono ?_; rintro e w' ⟨rfl, n, rfl⟩; rw [h0])
          exact ⟨⟨k + 1, k, _, ws, by omega, by go_num, rfl, by omega, by omega, Or.inr ⟨by omega, by omega, HE.out⟩, HN, by omega, hrow, below_drewN hb n⟩, by simp [intOf]; omega⟩
        · have hn' : 0 ≤ a := by omega
          have HE : Hid (a < k ∧ cur ++ [s.data.toList[k]] = (s.data.toList.take (k + 1)).drop a.toNat) := by
            rcases HC.out with ⟨h, _⟩ | ⟨_, h2, rfl⟩
            · omega
            · exact ⟨h2, (take_cur s.data.toList a.toNat k hkl (by omega)).symm⟩
          go_wp2_with (go_at_call 14; refine (spaceAt s k _ hs hlt).mono ?_; rintro e w' ⟨rfl, n, rfl⟩; rw [h0])
          have hak' := HE.out.1
          exact ⟨⟨k + 1, a, _, ws, by omega, by go_num, rfl, by omega, by omega, Or.inr ⟨by omega, by omega, HE.out.2⟩, HN, by omega, hrow, below_drewN hb n⟩, by simp [intOf]; omega⟩
      · have HN := HI.out
        rw [Plain.rest_space _ _ _ hkl h0] at HN
        have hm3 := Plain.head_le3 (s.data.toList.drop k)
        have hmb := Plain.head_bound s.data.toList k (by omega)
        have c := spaceAt s k
        obtain ⟨m, hm⟩ : ∃ m, Lib.headSpace (s.data.toList.drop k) = m := ⟨_, rfl⟩
        rw [hm] at h0 HN hm3 hmb c
        have HN' : Hid (ws ++ ((if cur = [] then [] else [cur]) ++ Plain.rest s.data.toList [] (k + m)) = Lib.fieldsD s.data.toList) := HN
        have hm0 : ((m : Int) == 0) = false := by simp; omega
        have C := Hid.mk' c
        clear HN hm c
        by_cases hn : a < 0
        · have HE : Hid (cur = []) := by
            rcases HC.out with ⟨_, h⟩ | ⟨h, _⟩
            · exact h
            · omega
          go_wp2_with (go_at_call 14; refine (C.out _ hs hlt).mono ?_; rintro e w' ⟨rfl, n, rfl⟩)
          have HF := HN'.out
          rw [HE.out, if_pos rfl, List.nil_append] at HF
          exact ⟨⟨k + m, a, [], ws, by omega, by go_num, rfl, by omega, by omega, Or.inl ⟨by omega, rfl⟩, HF, by omega, hrow, below_drewN hb n⟩, by simp [intOf]; omega⟩
        · have hn' : 0 ≤ a := by omega
          obtain ⟨p, rfl⟩ := Int.eq_ofNat_of_zero_le hn'
          have HE : Hid (p < k ∧ cur ≠ [] ∧ cur = (s.data.toList.take k).drop p) := by
            rcases HC.out with ⟨h, _⟩ | ⟨_, h2, h3⟩
            · omega
            · have e : cur = (s.data.toList.take k).drop p := by simpa using h3
              refine ⟨by omega, ?_, e⟩
              intro e0
              have := congrArg List.length e
              rw [e0] at this
              simp at this
              omega
          go_wp2_with (first | (go_at_call 14; refine (C.out _ hs hlt).mono ?_; rintro e w' ⟨rfl, n, rfl⟩) | (at_builtin; refine wpList_append_own _ rfl _ _ 22 rfl w.heap.size 9 i0 (.string ByteArray.empty) 1 16 Tryd.underlying22 hi hz0 hz1 hz2 rfl (by decide) _ ws.length (ws.map encS) rfl (World.ownsRow.alloc (w := wr.drewN n) hrow _) ⟨wr.heap.size, 0, none⟩ 1 1 [Value.string (s.extract p k)] rfl rfl (cell_new _ _ _) (one_str _) (by unfold maxLen; omega) (by omega) (Nat.le_trans hb.size (by simp)) ?_; intro v' w1 hown hgrow hnil))
          have HF := HN'.out
          rw [if_neg HE.out.2.1, ← List.append_assoc] at HF
          have hown' : w1.ownsRow w.heap.size 9 1 v' (ws ++ [cur]).length ((ws ++ [cur]).map encS) := by
            rw [extract_enc, ← HE.out.2.2] at hown
            simpa using hown
          have hbel : Below w.heap.size w w1 := Below.grown ((below_drewN hb n).alloc hb.size _) hgrow (Nat.le_trans hb.size (by simp)) (fun j hj => (hrow.lt j hj).1)
          exact ⟨⟨k + m, -1, [], ws ++ [cur], by omega, by go_num, rfl, by omega, by omega, Or.inl ⟨rfl, rfl⟩, HF, by simp; omega, hown', hbel⟩, by simp [intOf]; omega⟩
    · have hke : k = s.size := by omega
      have hend := HI.out
      rw [Plain.rest_end _ _ _ (by omega)] at hend
      have HN : Hid (ws ++ (if cur = [] then [] else [cur]) = Lib.fieldsD s.data.toList) := hend
      clear hend
      by_cases hn : a < 0
      · have HE : Hid (cur = []) := by
          rcases HC.out with ⟨_, h⟩ | ⟨h, _⟩
          · exact h
          · omega
        go_wp2
        go_ret
        have HF := HN.out
        rw [HE.out, if_pos rfl, List.append_nil] at HF
        exact ⟨_, rfl, by rw [← HF]; exact hrow, hb⟩
      · have hn' : 0 ≤ a := by omega
        obtain ⟨p, rfl⟩ := Int.eq_ofNat_of_zero_le hn'
        have HE : Hid (p < k ∧ cur ≠ [] ∧ cur = (s.data.toList.take s.size).drop p) := by
          rcases HC.out with ⟨h, _⟩ | ⟨_, h2, h3⟩
          · omega
          · have e : cur = (s.data.toList.take k).drop p := by simpa using h3
            refine ⟨by omega, ?_, by rw [← hke]; exact e⟩
            intro e0
            have := congrArg List.length e
            rw [e0] at this
            simp at this
            omega
        have hps : p ≤ s.size := by omega
        clear hke
        go_wp2_with (at_builtin; refine wpList_append_own _ rfl _ _ 22 rfl w.heap.size 9 i0 (.string ByteArray.empty) 1 16 Tryd.underlying22 hi hz0 hz1 hz2 rfl (by decide) _ ws.length (ws.map encS) rfl (World.ownsRow.alloc (w := wr) hrow _) ⟨wr.heap.size, 0, none⟩ 1 1 [Value.string (s.extract p s.size)] rfl rfl (cell_new _ _ _) (one_str _) (by unfold maxLen; omega) (by omega) (Nat.le_trans hb.size (by simp)) ?_; intro v' w1 hown hgrow hnil)
        go_ret
        have HF := HN.out
        rw [if_neg HE.out.2.1] at HF
        have hown' : w1.ownsRow w.heap.size 9 1 v' (ws ++ [cur]).length ((ws ++ [cur]).map encS) := by
          rw [extract_enc, ← HE.out.2.2] at hown
          simpa using hown
        have hbel : Below w.heap.size w w1 := Below.grown (hb.alloc hb.size _) hgrow (Nat.le_trans hb.size (by simp)) (fun j hj => (hrow.lt j hj).1)
        exact ⟨_, rfl, by rw [← HF]; exact hown', hbel⟩
end Go.Proofs.Qxb6618638aDoor.W
