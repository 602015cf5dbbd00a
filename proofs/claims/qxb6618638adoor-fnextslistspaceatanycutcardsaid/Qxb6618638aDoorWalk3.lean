/-
  The walk of FnExtsListSpaceAtAnyCut.
-/
import Derived.Test.Qxb6618638aDoorAt
namespace Go.Proofs.Qxb6618638aDoor.W
open Go.ChangeShapes Go.WideShapes Go.ChangeAt Go.RowKit Go.Maps
set_option linter.unusedVariables false

theorem grown_any {w w' : World} (h : w.grownBy w' none) (row : Option Nat) : w.grownBy w' row := ⟨h.os, h.tape, h.output, h.size, fun k hk _ => h.block k hk (by simp)⟩
theorem row_cells {M A n : Nat} {w : World} {ls : List (List UInt8)} (h : Row M w (.slice (some ⟨A, 0, none⟩) n n) ls) : ∀ j u, (ls.map encS)[j]? = some u → w.cell? ((⟨A, 0, none⟩ : Addr).add j) = some u := World.ownsRow.cells h rfl
theorem row_kept2 {M A n g : Nat} {w w' : World} {ls : List (List UInt8)} (h : Row M w (.slice (some ⟨A, 0, none⟩) n n) ls) (hg : w.grownBy w' (some g)) (hne : A ≠ g) : Row M w' (.slice (some ⟨A, 0, none⟩) n n) ls :=
  World.ownsRow.kept h hg (Or.inr (by simp [Value.ownBlock]; exact hne))
theorem words_one (ls : List (List UInt8)) : ∀ u ∈ ls.map encS, u.oneCell' = true := by
  intro u hu
  obtain ⟨l, _, rfl⟩ := List.mem_map.1 hu
  rfl

set_option maxHeartbeats 4000000 in
theorem walk3 (v1 v2 : Value) (c : Int) (Ks Vs : List ByteArray) (w : World) (hc0 : -9223372036854775808 ≤ c) (hc1 : c ≤ 9223372036854775807) (hm1 : Ks.length ≤ maxLen) (hm2 : Vs.length ≤ maxLen) (hs1 : ∀ X ∈ Ks, X.size ≤ maxLen) (hs2 : ∀ X ∈ Vs, X.size ≤ maxLen) (h1 : Strs w v1 Ks) (h2 : Strs w v2 Vs) (hT : Tabs w) (h0 : 0 < w.heap.size) :
    Calls Tryd.prog 3 #[v1, v2, .int .i64 c] w fun e w' => e = .returned (.bool true) ∧ Below w.heap.size w w' := by
  have cB := Hid.mk' (bytes5 v1 v2 c Ks Vs w hm1 hm2 hs1 hs2 h1 h2)
  have H1 := Hid.mk' h1
  have H2 := Hid.mk' h2
  have HT := Hid.mk' hT
  have hlen1 : ∃ a cp, v1 = .slice a Ks.length cp := by obtain ⟨a, b, o, cp, rfl, _⟩ := h1; exact ⟨a, cp, rfl⟩
  have hlen2 : ∃ a cp, v2 = .slice a Vs.length cp := by obtain ⟨a, b, o, cp, rfl, _⟩ := h2; exact ⟨a, cp, rfl⟩
  obtain ⟨a1, c1, rfl⟩ := hlen1
  obtain ⟨a2, c2, rfl⟩ := hlen2
  obtain ⟨L1, HL1⟩ : ∃ L, Ks.length = L := ⟨_, rfl⟩
  obtain ⟨L2, HL2⟩ : ∃ L, Vs.length = L := ⟨_, rfl⟩
  rw [HL1] at hm1
  rw [HL2] at hm2
  rw [HL1, HL2] at cB
  rw [HL1] at H1
  rw [HL2] at H2
  rw [HL1, HL2]
  have HL1' : Hid (Ks.length = L1) := HL1
  have HL2' : Hid (Vs.length = L2) := HL2
  clear h1 h2 hT hs1 hs2 HL1 HL2
  unfold maxLen at hm1 hm2
  go_enter Tryd.func3, Tryd.ntmps3
  go_wp2_with fail
  refine cB.out.mono ?_
  rintro e w' ⟨⟨b, rfl, hb⟩, hw⟩
  rw [hw]
  clear hw w'
  cases b with
  | false =>
    go_wp2_with fail
    go_ret
    exact ⟨rfl, Below.refl _ _⟩
  | true =>
    obtain ⟨hS1, hS2⟩ := hb rfl
    have S1 := Hid.mk' hS1
    have S2 := Hid.mk' hS2
    clear hS1 hS2
    by_cases t1 : (65536 : Int) < L1
    · go_wp2_with fail
      go_ret
      exact ⟨rfl, Below.refl _ _⟩
    by_cases t2 : (65536 : Int) < L2
    · go_wp2_with fail
      go_ret
      exact ⟨rfl, Below.refl _ _⟩
    go_wp2_with fail
    refine (spend _ _ Ks w (by omega) (by omega) (by have := HL1'.out; omega) S1.out H1.out).mono ?_
    rintro e w' ⟨r1, rfl, hr1, hw⟩
    rw [hw]
    clear hw w'
    by_cases t4 : r1 < 0
    · go_wp2_with fail
      go_ret
      exact ⟨rfl, Below.refl _ _⟩
    go_wp2_with fail
    refine (spend _ _ Vs w (by omega) (by omega) (by have := HL2'.out; omega) S2.out H2.out).mono ?_
    rintro e w' ⟨r2, rfl, hr2, hw⟩
    rw [hw]
    clear hw w'
    by_cases t5 : r2 < 0
    · go_wp2_with fail
      go_ret
      exact ⟨rfl, Below.refl _ _⟩
    go_wp2_with fail
    refine (params _ _ Ks Vs w (by have := HL1'.out; omega) (by have := HL2'.out; omega) S1.out S2.out H1.out H2.out).mono ?_
    rintro e w1 ⟨D, rfl, hel, hown, hb1⟩
    obtain ⟨S, hrun, hS⟩ := look hown
    have hss : S.size ≤ 1048576 := by simpa using hel _ _ hS
    have hrun' : (Instr.lookup 25 (.map (some w.heap.size)) (.string { data := #[101, 120, 116, 115, 95, 108, 105, 115, 116] }) true).run Tryd.prog w1 = .ok (.tuple #[.string S, .bool (Maps.has D nameK)]) w1 := hrun
    have hMlt := hown.lt
    have HO := Hid.mk' hown
    have HS := Hid.mk' hS
    have HB1 := Hid.mk' hb1
    obtain ⟨ok, hok⟩ : ∃ ok, Maps.has D nameK = ok := ⟨_, rfl⟩
    rw [hok] at hrun'
    have HK := Hid.mk' hok
    clear hrun hS hown hb1 hel hok
    by_cases t6 : c < 0
    · go_wp2_with fail
      go_ret
      exact ⟨rfl, HB1.out⟩
    by_cases t7 : (S.size : Int) < c
    · go_wp2_with fail
      go_ret
      exact ⟨rfl, HB1.out⟩
    obtain ⟨k, rfl⟩ := Int.eq_ofNat_of_zero_le (by omega : 0 ≤ c)
    have hkS : k ≤ S.size := by omega
    go_wp2_with fail
    refine (exts_at w1 S HO.out HS.out (by omega) (HT.out.below HB1.out h0)).mono ?_
    rintro e w2 ⟨V0, A0, n0, hV0, hn0, rfl, hrow0, hb2⟩
    rw [HK.out]
    have R0 := Hid.mk' hrow0
    have HB2 := Hid.mk' hb2
    have hz2 := hb2.size
    clear hrow0 hb2 hrun' hV0 hn0
    go_wp2_with fail
    refine (fields_at w.heap.size S w2 (by omega) (by omega)).mono ?_
    rintro e w3 ⟨V1, rfl, hrow1, hb3⟩
    have R1 := Hid.mk' hrow1
    have HB3 := Hid.mk' hb3
    have hz3 := hb3.size
    have hwl : (words S).length ≤ 4000000 := by have := words_len S; omega
    clear hrow1 hb3
    go_wp2_with fail
    refine (same_at w.heap.size V0 V1 (words S) w3 hwl (R0.out.kept (grown_of_below HB3.out _)) R1.out).mono ?_
    rintro e w3' ⟨rfl, n3, hw3⟩
    have HO3 : Hid (w3'.ownsMap Tryd.prog 9 (plainElem Tryd.prog 9) w.heap.size 65536 D) := by
      rw [hw3]
      exact ((HO.out.kept (grown_of_below HB2.out none) (by simp)).kept (grown_of_below HB3.out none) (by simp)).kept (grown_drewN _ n3 none) (by simp)
    have HB3' : Hid (Below w.heap.size w w3') := by
      rw [hw3]
      exact below_drewN ((HB1.out.trans (HB2.out.mono (by omega))).trans (HB3.out.mono (by omega))) n3
    have hz3' : w3.heap.size ≤ w3'.heap.size := by rw [hw3]; exact Nat.le_refl _
    clear hw3 R0 R1 HB2 HB3 HO
    obtain ⟨X1, hX1⟩ : ∃ X, S.extract 0 k = X := ⟨_, rfl⟩
    obtain ⟨X2, hX2⟩ : ∃ X, S.extract k S.size = X := ⟨_, rfl⟩
    have hx1 : X1.size ≤ 1048576 := by rw [← hX1]; simp; omega
    have hx2 : X2.size ≤ 1048576 := by rw [← hX2]; simp; omega
    obtain ⟨w4, hst4, hown4, hg4⟩ := put HO3.out (by omega) X1 (by omega)
    have HO4 := Hid.mk' hown4
    have HD1 : Hid (Maps.has (D.put nameK (.lit (.string X1.data.toList))) nameK = true) := has_put HO3.out.isMap X1
    have HA1 := Hid.mk' (at_put HO3.out.isMap X1)
    have HB4 : Hid (Below w.heap.size w w4) := Below.grown HB3'.out hg4 (by omega) (fun j hj => by cases hj; exact Nat.le_refl _)
    have hz4 := hg4.size
    generalize D.put nameK (.lit (.string X1.data.toList)) = D1 at *
    clear hown4 hg4 HO3 HB3'
    go_wp2_with fail
    refine (exts_at w4 X1 HO4.out HA1.out (by omega) (HT.out.below HB4.out h0)).mono ?_
    rintro e w5 ⟨V1, A1, n1, rfl, hn1, rfl, hrow1, hb5⟩
    rw [HD1.out]
    have R1 := Hid.mk' hrow1
    have HN1 := Hid.mk' hn1
    have HB5 := Hid.mk' hb5
    have hz5 := hb5.size
    have hn1' : n1 ≤ 1048577 := by have := words_len X1; omega
    have HO5 : Hid (w5.ownsMap Tryd.prog 9 (plainElem Tryd.prog 9) w.heap.size 65537 D1) := HO4.out.kept (grown_of_below HB5.out none) (by simp)
    clear hrow1 hn1 hb5 hst4
    obtain ⟨w6, hst6, hown6, hg6⟩ := put HO5.out (by omega) X2 (by omega)
    have HO6 := Hid.mk' hown6
    have HD2 : Hid (Maps.has (D1.put nameK (.lit (.string X2.data.toList))) nameK = true) := has_put HO5.out.isMap X2
    have HA2 := Hid.mk' (at_put HO5.out.isMap X2)
    have HB6 : Hid (Below w.heap.size w w6) := Below.grown (HB4.out.trans (HB5.out.mono (by omega))) hg6 (by omega) (fun j hj => by cases hj; exact Nat.le_refl _)
    have hz6 := hg6.size
    have R1b : Hid (Row w.heap.size w6 (.slice (some ⟨A1, 0, none⟩) n1 n1) (words X1)) := R1.out.kept hg6
    generalize D1.put nameK (.lit (.string X2.data.toList)) = D2 at *
    clear hown6 hg6 HO5 HO4 HB4 HB5 R1
    go_wp2_with fail
    refine (exts_at w6 X2 HO6.out HA2.out (by omega) (HT.out.below HB6.out h0)).mono ?_
    rintro e w7 ⟨V2, A2, n2, rfl, hn2, rfl, hrow2, hb7⟩
    rw [HD2.out]
    have R2 := Hid.mk' hrow2
    have HN2 := Hid.mk' hn2
    have HB7 := Hid.mk' hb7
    have hz7 := hb7.size
    have hn2' : n2 ≤ 1048577 := by have := words_len X2; omega
    have R1c : Hid (Row w.heap.size w7 (.slice (some ⟨A1, 0, none⟩) n1 n1) (words X1)) := R1b.out.kept (grown_of_below HB7.out _)
    have HO7 : Hid (w7.ownsMap Tryd.prog 9 (plainElem Tryd.prog 9) w.heap.size 65538 D2) := HO6.out.kept (grown_of_below HB7.out none) (by simp)
    clear hrow2 hn2 hb7 hst6
    have hx3 : (X1 ++ { data := #[32] } ++ X2).size ≤ 2097153 := by
      rw [ByteArray.size_append, ByteArray.size_append]
      have : (ByteArray.mk #[32]).size = 1 := rfl
      omega
    have hx3' : (X1 ++ { data := #[32] }).size ≤ 1048577 := by
      rw [ByteArray.size_append]
      have : (ByteArray.mk #[32]).size = 1 := rfl
      omega
    obtain ⟨X3, HX3⟩ : ∃ X, X1 ++ { data := #[32] } ++ X2 = X := ⟨_, rfl⟩
    rw [HX3] at hx3
    have HW3 : Hid (words X3 = words X1 ++ words X2) := by
      rw [← HX3]
      show words _ = _
      unfold words
      rw [← Plain.split_at_blank]
      congr 1
      simp
    obtain ⟨w8, hst8, hown8, hg8⟩ := put (w := w7.drew) HO7.out.drew (by omega) X3 (by omega)
    have HO8 := Hid.mk' hown8
    have HD3 : Hid (Maps.has (D2.put nameK (.lit (.string X3.data.toList))) nameK = true) := has_put HO7.out.isMap X3
    have HA3 := Hid.mk' (at_put HO7.out.isMap X3)
    have HB8 : Hid (Below w.heap.size w w8) := Below.grown (w := w7.drew) (below_drewN (HB6.out.trans (HB7.out.mono (by omega))) 1) hg8 (by simp; omega) (fun j hj => by cases hj; exact Nat.le_refl _)
    have hz8 : w7.heap.size ≤ w8.heap.size := hg8.size
    have R1d : Hid (Row w.heap.size w8 (.slice (some ⟨A1, 0, none⟩) n1 n1) (words X1)) := (R1c.out.kept (grown_drewN _ 1 _)).kept hg8
    have R2d : Hid (Row w.heap.size w8 (.slice (some ⟨A2, 0, none⟩) n2 n2) (words X2)) := (R2.out.kept (grown_drewN _ 1 _)).kept hg8
    generalize D2.put nameK (.lit (.string X3.data.toList)) = D3 at *
    clear hown8 hg8 HO7 HO6 HB6 HB7 R1b R1c R2
    go_wp2_with fail
    go_region
    all_goals go_wp2_with fail
    refine (exts_at w8 X3 HO8.out HA3.out (by omega) (HT.out.below HB8.out h0)).mono ?_
    rintro e w9 ⟨V3, A3, n3', rfl, hn3, rfl, hrow3, hb9⟩
    rw [HD3.out]
    have R3 := Hid.mk' hrow3
    have HB9 := Hid.mk' hb9
    have hz9 := hb9.size
    have R1e : Hid (Row w.heap.size w9 (.slice (some ⟨A1, 0, none⟩) n1 n1) (words X1)) := R1d.out.kept (grown_of_below HB9.out _)
    have R2e : Hid (Row w.heap.size w9 (.slice (some ⟨A2, 0, none⟩) n2 n2) (words X2)) := R2d.out.kept (grown_of_below HB9.out _)
    clear hrow3 hn3 hb9 hst8 R1d R2d
    go_wp2_with fail
    refine (fields_at w.heap.size X1 w9 (by omega) (by omega)).mono ?_
    rintro e w10 ⟨V4, rfl, hrow4, hb10⟩
    have R4 := Hid.mk' hrow4
    have HB10 := Hid.mk' hb10
    have hz10 := hb10.size
    have R1f : Hid (Row w.heap.size w10 (.slice (some ⟨A1, 0, none⟩) n1 n1) (words X1)) := R1e.out.kept (grown_of_below HB10.out _)
    have R2f : Hid (Row w.heap.size w10 (.slice (some ⟨A2, 0, none⟩) n2 n2) (words X2)) := R2e.out.kept (grown_of_below HB10.out _)
    have R3f : Hid (Row w.heap.size w10 (.slice (some ⟨A3, 0, none⟩) n3' n3') (words X3)) := R3.out.kept (grown_of_below HB10.out _)
    have hwl1 : (words X1).length ≤ 4000000 := by have := words_len X1; omega
    have hwl3 : (words X3).length ≤ 4000000 := by have := words_len X3; omega
    clear hrow4 hb10 R1e R2e R3
    go_wp2_with fail
    refine (same_at w.heap.size _ V4 (words X1) w10 hwl1 R1f.out R4.out).mono ?_
    rintro e w11 ⟨rfl, n11, hw11⟩
    have R1g : Hid (Row w.heap.size w11 (.slice (some ⟨A1, 0, none⟩) n1 n1) (words X1)) := by rw [hw11]; exact R1f.out.kept (grown_drewN _ _ _)
    have R2g : Hid (Row w.heap.size w11 (.slice (some ⟨A2, 0, none⟩) n2 n2) (words X2)) := by rw [hw11]; exact R2f.out.kept (grown_drewN _ _ _)
    have R3g : Hid (Row w.heap.size w11 (.slice (some ⟨A3, 0, none⟩) n3' n3') (words X3)) := by rw [hw11]; exact R3f.out.kept (grown_drewN _ _ _)
    have HB11 : Hid (Below w.heap.size w w11) := by rw [hw11]; exact below_drewN ((HB8.out.trans (HB9.out.mono (by omega))).trans (HB10.out.mono (by omega))) _
    have hz11 : w10.heap.size ≤ w11.heap.size := by rw [hw11]; exact Nat.le_refl _
    clear hw11 R1f R2f R3f R4 HB8 HB9 HB10
    obtain ⟨N, hN⟩ : ∃ N : Nat, N = n1 + n2 := ⟨_, rfl⟩
    have hN' : (n1 : Int) + (n2 : Int) = (N : Int) := by omega
    have hNb : N ≤ 2097154 := by omega
    have HNN := Hid.mk' hN
    clear hN
    obtain ⟨i0, hi, hz0, hz1, hz2'⟩ := info_parts info9
    have hbytes : i0.bytes * N ≤ 281474976710656 := by rw [hz2']; omega
    have K1 : Hid (∀ wx, w11.grownBy wx none → ∀ j u, ((words X1).map encS)[j]? = some u → wx.cell? ((⟨A1, 0, none⟩ : Addr).add j) = some u) := fun wx hg => row_cells (R1g.out.kept (grown_any hg _))
    have K2 : Hid (∀ wx wy, w11.grownBy wx none → wx.grownBy wy (some w11.heap.size) → ∀ j u, ((words X2).map encS)[j]? = some u → wy.cell? ((⟨A2, 0, none⟩ : Addr).add j) = some u) := fun wx wy hg hg' => row_cells (row_kept2 (R2g.out.kept (grown_any hg _)) hg' (by have := (World.ownsRow.lt R2g.out A2 rfl).2; omega))
    have K3 : Hid (∀ wx wy wz, w11.grownBy wx none → wx.grownBy wy (some w11.heap.size) → wy.grownBy wz (some w11.heap.size) → Row w.heap.size wz (.slice (some ⟨A3, 0, none⟩) n3' n3') (words X3)) := fun wx wy wz hg hg' hg'' => row_kept2 (row_kept2 (R3g.out.kept (grown_any hg _)) hg' (by have := (World.ownsRow.lt R3g.out A3 rfl).2; omega)) hg'' (by have := (World.ownsRow.lt R3g.out A3 rfl).2; omega)
    have E1 : Hid (((words X1).map encS).length = n1 * 1) := by rw [List.length_map, ← HN1.out]; exact (Nat.mul_one _).symm
    have E2 : Hid (((words X2).map encS).length = n2 * 1) := by rw [List.length_map, ← HN2.out]; exact (Nat.mul_one _).symm
    have hNle : n1 + n2 ≤ N := Nat.le_of_eq HNN.out.symm
    go_wp2_with (first
      | (at_make; refine wpList_make_own _ rfl _ _ 22 rfl (w.heap.size + 1) 9 i0 (.string ByteArray.empty) 1 Tryd.underlying22 hi hz0 hz1 _ _ _ N rfl rfl rfl hbytes (by unfold maxLen; omega) (by omega) ?_; intro w12 hown12 hg12)
      | (at_builtin; refine wpList_append_fits _ rfl _ _ 22 rfl (w.heap.size + 1) 9 i0 1 Tryd.underlying22 hi hz1 w11.heap.size 0 N [] rfl hown12 ⟨A1, 0, none⟩ n1 n1 ((words X1).map encS) rfl E1.out (K1.out _ hg12) (words_one _) (by omega) ?_; intro w13 hown13 hg13)
      | (at_builtin; refine wpList_append_fits _ rfl _ _ 22 rfl (w.heap.size + 1) 9 i0 1 Tryd.underlying22 hi hz1 w11.heap.size n1 N ((words X1).map encS) rfl (by simpa using hown13) ⟨A2, 0, none⟩ n2 n2 ((words X2).map encS) rfl E2.out (K2.out _ _ hg12 hg13) (words_one _) (by omega) ?_; intro w14 hown14 hg14))
    have J : Row w.heap.size w14 (.slice (some ⟨w11.heap.size, 0, none⟩) (n1 + n2) N) (words X3) := by
      rw [HW3.out]
      show w14.ownsRow _ 9 1 _ (words X1 ++ words X2).length ((words X1 ++ words X2).map encS)
      rw [List.map_append, List.length_append, ← HN1.out, ← HN2.out]
      exact hown14
    have HJ := Hid.mk' J
    have HG12 := Hid.mk' hg12
    have HG13 := Hid.mk' hg13
    have HG14 := Hid.mk' hg14
    have hz12 := hg12.size
    have hz13 := hg13.size
    clear J hown12 hown13 hown14 hg12 hg13 hg14
    refine (same_at w.heap.size _ _ (words X3) w14 hwl3 (K3.out _ _ _ HG12.out HG13.out HG14.out) HJ.out).mono ?_
    rintro e w15 ⟨rfl, n15, rfl⟩
    go_wp2_with fail
    go_ret
    exact ⟨rfl, below_drewN (Below.grown (Below.grown (Below.grown HB11.out HG12.out (by omega) (fun j hj => by cases hj)) HG13.out (by omega) (fun j hj => by cases hj; omega)) HG14.out (by omega) (fun j hj => by cases hj; omega)) _⟩
end Go.Proofs.Qxb6618638aDoor.W
