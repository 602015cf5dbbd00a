/-
  PLAIN LAWS, NO Go IN SIGHT: white space by bytes; words; a space put in at any cut parts the words there.
-/
import Derived.Lib.SpaceUEq
namespace Go.Proofs.Qxb6618638aDoor.Plain
open Go.Lib

theorem head_of_seq (q : List UInt8) (hq : q ∈ spaceSeqs) (t : List UInt8) : headSpace (q ++ t) = q.length := by
  obtain ⟨h1, h2⟩ := seq_decodes q hq t
  have hne : q ++ t ≠ [] := by
    intro e
    have : q = [] := (List.append_eq_nil_iff.1 e).1
    subst this
    exact absurd hq (by decide)
  rw [headSpace_eq _ hne, h1, h2]
  rfl

theorem head_zero (l : List UInt8) (h : ∀ q ∈ spaceSeqs, q.isPrefixOf l = false) : headSpace l = 0 := by
  unfold headSpace
  have : spaceSeqs.find? (·.isPrefixOf l) = none := by
    rw [List.find?_eq_none]
    intro q hq
    simp [h q hq]
  rw [this]
  rfl

/-- The width, out of the three bytes' numbers; r: how many bytes are left. -/
def hsN (r c b1 b2 : Nat) : Nat :=
  if c = 32 ∨ (9 ≤ c ∧ c ≤ 13) then 1
  else if c = 194 ∧ 2 ≤ r ∧ (b1 = 133 ∨ b1 = 160) then 2
  else if r < 3 then 0
  else if c = 225 ∧ b1 = 154 ∧ b2 = 128 then 3
  else if c = 226 ∧ b1 = 128 ∧ ((128 ≤ b2 ∧ b2 ≤ 138) ∨ b2 = 168 ∨ b2 = 169 ∨ b2 = 175) then 3
  else if c = 226 ∧ b1 = 129 ∧ b2 = 159 then 3
  else if c = 227 ∧ b1 = 128 ∧ b2 = 128 then 3
  else 0

theorem nat_eq {a b : UInt8} : a = b ↔ a.toNat = b.toNat := UInt8.toNat_inj.symm

theorem of_one (c : UInt8) (t : List UInt8) (h : c.toNat = 32 ∨ (9 ≤ c.toNat ∧ c.toNat ≤ 13)) : headSpace (c :: t) = 1 := by
  have hm := mem1 ⟨c.toNat, c.toNat_lt⟩ h.symm
  rw [UInt8.ofNat_toNat] at hm
  exact head_of_seq [c] hm t
theorem of_two (c b1 : UInt8) (t : List UInt8) (h0 : c.toNat = 194) (h : b1.toNat = 133 ∨ b1.toNat = 160) : headSpace (c :: b1 :: t) = 2 := by
  have hm := mem2 ⟨b1.toNat, b1.toNat_lt⟩ h
  rw [UInt8.ofNat_toNat] at hm
  obtain rfl : c = 194 := nat_eq.2 h0
  exact head_of_seq [194, b1] hm t
theorem of_three (c b1 b2 : UInt8) (t : List UInt8) (h0 : c.toNat = 226) (h1 : b1.toNat = 128) (h : (128 ≤ b2.toNat ∧ b2.toNat ≤ 138) ∨ b2.toNat = 168 ∨ b2.toNat = 169 ∨ b2.toNat = 175) : headSpace (c :: b1 :: b2 :: t) = 3 := by
  have hm := mem3 ⟨b2.toNat, b2.toNat_lt⟩ h
  rw [UInt8.ofNat_toNat] at hm
  obtain rfl : c = 226 := nat_eq.2 h0
  obtain rfl : b1 = 128 := nat_eq.2 h1
  exact head_of_seq [226, 128, b2] hm t

theorem head1 (c : UInt8) (x y : Nat) : headSpace [c] = hsN 1 c.toNat x y := by
  unfold hsN
  split
  · exact of_one c [] ‹_›
  · rename_i h
    rw [if_neg (by omega), if_pos (by omega)]
    apply head_zero
    intro q hq
    simp only [spaceSeqs, List.mem_cons, List.not_mem_nil, or_false] at hq
    rcases hq with rfl | rfl | rfl | rfl | rfl | rfl | rfl | rfl | rfl | rfl | rfl | rfl | rfl | rfl | rfl | rfl | rfl | rfl | rfl | rfl | rfl | rfl | rfl | rfl | rfl <;> simp [List.isPrefixOf] <;> (try rw [nat_eq]) <;> simp <;> omega

theorem head2 (c b1 : UInt8) (y : Nat) : headSpace [c, b1] = hsN 2 c.toNat b1.toNat y := by
  unfold hsN
  split
  · exact of_one c [b1] ‹_›
  · rename_i h
    split
    · rename_i h2
      exact of_two c b1 [] h2.1 h2.2.2
    · rename_i h2
      rw [if_pos (by omega)]
      apply head_zero
      intro q hq
      simp only [spaceSeqs, List.mem_cons, List.not_mem_nil, or_false] at hq
      rcases hq with rfl | rfl | rfl | rfl | rfl | rfl | rfl | rfl | rfl | rfl | rfl | rfl | rfl | rfl | rfl | rfl | rfl | rfl | rfl | rfl | rfl | rfl | rfl | rfl | rfl <;> simp [List.isPrefixOf] <;> (try simp only [nat_eq]) <;> simp <;> omega

set_option maxHeartbeats 2000000 in
theorem head3 (c b1 b2 : UInt8) (t : List UInt8) (r : Nat) (hr : 3 ≤ r) : headSpace (c :: b1 :: b2 :: t) = hsN r c.toNat b1.toNat b2.toNat := by
  unfold hsN
  split
  · exact of_one c (b1 :: b2 :: t) ‹_›
  · rename_i h
    split
    · rename_i h2
      exact of_two c b1 (b2 :: t) h2.1 h2.2.2
    · rename_i h2
      rw [if_neg (by omega)]
      split
      · rename_i h3
        obtain rfl : c = 225 := nat_eq.2 h3.1
        obtain rfl : b1 = 154 := nat_eq.2 h3.2.1
        obtain rfl : b2 = 128 := nat_eq.2 h3.2.2
        exact head_of_seq [225, 154, 128] (by decide) t
      · rename_i h3
        split
        · rename_i h4
          exact of_three c b1 b2 t h4.1 h4.2.1 h4.2.2
        · rename_i h4
          split
          · rename_i h5
            obtain rfl : c = 226 := nat_eq.2 h5.1
            obtain rfl : b1 = 129 := nat_eq.2 h5.2.1
            obtain rfl : b2 = 159 := nat_eq.2 h5.2.2
            exact head_of_seq [226, 129, 159] (by decide) t
          · rename_i h5
            split
            · rename_i h6
              obtain rfl : c = 227 := nat_eq.2 h6.1
              obtain rfl : b1 = 128 := nat_eq.2 h6.2.1
              obtain rfl : b2 = 128 := nat_eq.2 h6.2.2
              exact head_of_seq [227, 128, 128] (by decide) t
            · rename_i h6
              apply head_zero
              intro q hq
              simp only [spaceSeqs, List.mem_cons, List.not_mem_nil, or_false] at hq
              rcases hq with rfl | rfl | rfl | rfl | rfl | rfl | rfl | rfl | rfl | rfl | rfl | rfl | rfl | rfl | rfl | rfl | rfl | rfl | rfl | rfl | rfl | rfl | rfl | rfl | rfl <;> simp [List.isPrefixOf] <;> (try simp only [nat_eq]) <;> simp <;> omega

theorem head_le : ∀ x : List UInt8, headSpace x ≤ x.length
  | [] => by rw [headSpace_nil]; exact Nat.le_refl _
  | [c] => by rw [head1 c 0 0]; simp [hsN]; split <;> omega
  | [c, b] => by rw [head2 c b 0]; simp [hsN]; split <;> (try split) <;> omega
  | c :: b :: d :: t => by
    rw [head3 c b d t 3 (Nat.le_refl _)]
    have : hsN 3 c.toNat b.toNat d.toNat ≤ 3 := by unfold hsN; repeat' (first | omega | split)
    simp
    omega

/-- A blank behind does not turn what stands at the head. -/
theorem head_app (c : UInt8) (x y : List UInt8) : headSpace (c :: x ++ 32 :: y) = headSpace (c :: x) := by
  match x with
  | [] =>
    rw [head1 c 0 0]
    match y with
    | [] =>
      show headSpace [c, 32] = _
      rw [head2 c 32 0]
      simp [hsN]
    | d :: t =>
      show headSpace (c :: 32 :: d :: t) = _
      rw [head3 c 32 d t 3 (Nat.le_refl _)]
      simp [hsN]
  | [b] =>
    show headSpace (c :: b :: 32 :: y) = _
    rw [head2 c b 0, head3 c b 32 y 3 (Nat.le_refl _)]
    simp [hsN]
  | b :: d :: t =>
    show headSpace (c :: b :: d :: (t ++ 32 :: y)) = _
    rw [head3 c b d _ 3 (Nat.le_refl _), head3 c b d _ 3 (Nat.le_refl _)]

theorem fuel (f g : Nat) (cur l : List UInt8) (hf : l.length ≤ f) (hg : l.length ≤ g) : fieldsGoU f cur l = fieldsGoU g cur l := by
  rw [fieldsGo_eq l.length f cur l (Nat.le_refl _) hf, fieldsGo_eq l.length g cur l (Nat.le_refl _) hg]

theorem split_go (y : List UInt8) (n : Nat) : ∀ (x cur : List UInt8) (F g h : Nat), x.length ≤ n → x.length + 1 + y.length ≤ F → x.length ≤ g → y.length ≤ h →
    fieldsGoU F cur (x ++ 32 :: y) = fieldsGoU g cur x ++ fieldsGoU h [] y := by
  induction n with
  | zero =>
    intro x cur F g h hn hF hg hh
    obtain rfl : x = [] := List.eq_nil_of_length_eq_zero (by omega)
    rw [fieldsGoU_nil]
    obtain ⟨F', rfl⟩ : ∃ F', F = F' + 1 := ⟨F - 1, by omega⟩
    have h1 : headSpace (32 :: y) = 1 := of_one 32 y (Or.inl rfl)
    show fieldsGoU (F' + 1) cur (32 :: y) = _
    simp only [fieldsGoU]
    rw [h1, if_neg (by omega)]
    show _ ++ fieldsGoU F' [] y = _
    rw [fuel F' h [] y (by simp at hF; omega) hh]
  | succ n ih =>
    intro x cur F g h hn hF hg hh
    match x with
    | [] =>
      rw [fieldsGoU_nil]
      obtain ⟨F', rfl⟩ : ∃ F', F = F' + 1 := ⟨F - 1, by simp at hF; omega⟩
      have h1 : headSpace (32 :: y) = 1 := of_one 32 y (Or.inl rfl)
      show fieldsGoU (F' + 1) cur (32 :: y) = _
      simp only [fieldsGoU]
      rw [h1, if_neg (by omega)]
      show _ ++ fieldsGoU F' [] y = _
      rw [fuel F' h [] y (by simp at hF; omega) hh]
    | c :: x =>
      simp only [List.length_cons] at hn hF hg
      obtain ⟨F', rfl⟩ : ∃ F', F = F' + 1 := ⟨F - 1, by omega⟩
      obtain ⟨g', rfl⟩ : ∃ g', g = g' + 1 := ⟨g - 1, by omega⟩
      have ha := head_app c x y
      show fieldsGoU (F' + 1) cur (c :: (x ++ 32 :: y)) = _
      simp only [fieldsGoU]
      have ha' : headSpace (c :: (x ++ 32 :: y)) = headSpace (c :: x) := ha
      rw [ha']
      by_cases h0 : headSpace (c :: x) = 0
      · rw [if_pos h0, if_pos h0]
        exact ih x _ F' g' h (by omega) (by omega) (by omega) hh
      · rw [if_neg h0, if_neg h0, List.append_assoc]
        have hle := head_le (c :: x)
        have hd : (c :: (x ++ 32 :: y)).drop (headSpace (c :: x)) = (c :: x).drop (headSpace (c :: x)) ++ 32 :: y := by
          show ((c :: x) ++ 32 :: y).drop _ = _
          rw [List.drop_append_of_le_length hle]
        rw [hd]
        have hlen : ((c :: x).drop (headSpace (c :: x))).length ≤ x.length := by simp; omega
        rw [ih _ [] F' g' h (by omega) (by omega) (by omega) hh]

/-- A SPACE PUT IN AT ANY CUT PARTS THE WORDS THERE. -/
theorem split_at_blank (x y : List UInt8) : fieldsD (x ++ 32 :: y) = fieldsD x ++ fieldsD y := by
  rw [← fieldsU_eq, ← fieldsU_eq, ← fieldsU_eq]
  exact split_go y x.length x [] _ _ _ (Nat.le_refl _) (by simp; omega) (by omega) (by omega)

/-! ### the steps of a walk over the bytes -/
/-- What is still to come, at the byte i, with the word 'cur' begun. -/
def rest (l cur : List UInt8) (i : Nat) : List (List UInt8) := fieldsGoU (l.length + 1) cur (l.drop i)

theorem rest_start (l : List UInt8) : rest l [] 0 = fieldsD l := by rw [← fieldsU_eq]; rfl

theorem rest_end (l cur : List UInt8) (i : Nat) (h : l.length ≤ i) : rest l cur i = if cur = [] then [] else [cur] := by
  unfold rest
  rw [List.drop_of_length_le h, fieldsGoU_nil]

theorem rest_byte (l cur : List UInt8) (i : Nat) (h : i < l.length) (h0 : headSpace (l.drop i) = 0) : rest l cur i = rest l (cur ++ [l[i]]) (i + 1) := by
  unfold rest
  have e : l.drop i = l[i] :: l.drop (i + 1) := by simp
  rw [e] at h0 ⊢
  rw [show fieldsGoU (l.length + 1) cur (l[i] :: l.drop (i + 1)) = if headSpace (l[i] :: l.drop (i + 1)) = 0 then fieldsGoU l.length (cur ++ [l[i]]) (l.drop (i + 1)) else (if cur = [] then [] else [cur]) ++ fieldsGoU l.length [] ((l[i] :: l.drop (i + 1)).drop (headSpace (l[i] :: l.drop (i + 1)))) from rfl, if_pos h0]
  exact fuel _ _ _ _ (by simp) (by simp; omega)

theorem rest_space (l cur : List UInt8) (i : Nat) (h : i < l.length) (h0 : headSpace (l.drop i) ≠ 0) : rest l cur i = (if cur = [] then [] else [cur]) ++ rest l [] (i + headSpace (l.drop i)) := by
  unfold rest
  have e : l.drop i = l[i] :: l.drop (i + 1) := by simp
  have hd : l.drop (i + headSpace (l.drop i)) = (l.drop i).drop (headSpace (l.drop i)) := by rw [List.drop_drop]
  rw [hd]
  rw [e] at h0 ⊢
  rw [show fieldsGoU (l.length + 1) cur (l[i] :: l.drop (i + 1)) = if headSpace (l[i] :: l.drop (i + 1)) = 0 then fieldsGoU l.length (cur ++ [l[i]]) (l.drop (i + 1)) else (if cur = [] then [] else [cur]) ++ fieldsGoU l.length [] ((l[i] :: l.drop (i + 1)).drop (headSpace (l[i] :: l.drop (i + 1)))) from rfl, if_neg h0]
  congr 1
  exact fuel _ _ _ _ (by simp) (by simp; omega)

theorem head_bound (l : List UInt8) (i : Nat) (h : i ≤ l.length) : i + headSpace (l.drop i) ≤ l.length := by
  have := head_le (l.drop i)
  simp at this
  omega

theorem head_le3 (l : List UInt8) : headSpace l ≤ 3 := by
  match l with
  | [] => rw [headSpace_nil]; omega
  | [c] => rw [head1 c 0 0]; unfold hsN; repeat' (first | omega | split)
  | [c, b] => rw [head2 c b 0]; unfold hsN; repeat' (first | omega | split)
  | c :: b :: d :: t => rw [head3 c b d t 3 (Nat.le_refl _)]; unfold hsN; repeat' (first | omega | split)

end Go.Proofs.Qxb6618638aDoor.Plain
