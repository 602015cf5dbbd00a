/-
  The walk of FnExtsListReadsOnlyItsOwnName.
-/
import Derived.Test.Qxb6618638aDoorAt
namespace Go.Proofs.Qxb6618638aDoor.W
open Go.ChangeShapes Go.WideShapes Go.ChangeAt Go.RowKit Go.Maps
set_option linter.unusedVariables false

set_option maxHeartbeats 2000000 in
theorem walk4 (v1 v2 : Value) (c : ByteArray) (Ks Vs : List ByteArray) (w : World) (hcm : c.size ≤ maxLen) (hm1 : Ks.length ≤ maxLen) (hm2 : Vs.length ≤ maxLen) (hs1 : ∀ X ∈ Ks, X.size ≤ maxLen) (hs2 : ∀ X ∈ Vs, X.size ≤ maxLen) (h1 : Strs w v1 Ks) (h2 : Strs w v2 Vs) (hT : Tabs w) (h0 : 0 < w.heap.size) :
    Calls Tryd.prog 4 #[v1, v2, .string c] w fun e w' => e = .returned (.bool true) ∧ Below w.heap.size w w' := by
  have cB := Hid.mk' (bytes11 v1 v2 c hcm Ks Vs w hm1 hm2 hs1 hs2 h1 h2)
  have H1 := Hid.mk' h1
  have H2 := Hid.mk' h2
  have HT := Hid.mk' hT
  have hlen1 : ∃ a cp, v1 = .slice a Ks.length cp := by obtain ⟨a, b, o, cp, rfl, _⟩ := h1; exact ⟨a, cp, rfl⟩
  have hlen2 : ∃ a cp, v2 = .slice a Vs.length cp := by obtain ⟨a, b, o, cp, rfl, _⟩ := h2; exact ⟨a, cp, rfl⟩
  obtain ⟨a1, c1, rfl⟩ := hlen1
  obtain ⟨a2, c2, rfl⟩ := hlen2
  obtain ⟨L1, HL1⟩ : ∃ L, Ks.length = L := ⟨_, rfl⟩
  obtain ⟨L2, HL2⟩ : ∃ L, Vs.length = L := ⟨_, rfl⟩
  rw [HL1] at hm1
  rw [HL2] at hm2
  rw [HL1, HL2] at cB
  rw [HL1] at H1
  rw [HL2] at H2
  rw [HL1, HL2]
  have HL1' : Hid (Ks.length = L1) := HL1
  have HL2' : Hid (Vs.length = L2) := HL2
  clear h1 h2 hT hs1 hs2 HL1 HL2
  unfold maxLen at hm1 hm2 hcm
  go_enter Tryd.func4, Tryd.ntmps4
  go_wp2_with fail
  refine cB.out.mono ?_
  rintro e w' ⟨⟨b, rfl, hb⟩, hw⟩
  rw [hw]
  clear hw w'
  cases b with
  | false =>
    go_wp2_with fail
    go_ret
    exact ⟨rfl, Below.refl _ _⟩
  | true =>
    obtain ⟨hS1, hS2⟩ := hb rfl
    have S1 := Hid.mk' hS1
    have S2 := Hid.mk' hS2
    clear hS1 hS2
    by_cases t1 : (65536 : Int) < L1
    · go_wp2_with fail
      go_ret
      exact ⟨rfl, Below.refl _ _⟩
    by_cases t2 : (65536 : Int) < L2
    · go_wp2_with fail
      go_ret
      exact ⟨rfl, Below.refl _ _⟩
    by_cases t3 : (1048576 : Int) < c.size
    · go_wp2_with fail
      go_ret
      exact ⟨rfl, Below.refl _ _⟩
    go_wp2_with fail
    refine (spend _ _ Ks w (by omega) (by omega) (by have := HL1'.out; omega) S1.out H1.out).mono ?_
    rintro e w' ⟨r1, rfl, hr1, hw⟩
    rw [hw]
    clear hw w'
    by_cases t4 : r1 < 0
    · go_wp2_with fail
      go_ret
      exact ⟨rfl, Below.refl _ _⟩
    go_wp2_with fail
    refine (spend _ _ Vs w (by omega) (by omega) (by have := HL2'.out; omega) S2.out H2.out).mono ?_
    rintro e w' ⟨r2, rfl, hr2, hw⟩
    rw [hw]
    clear hw w'
    by_cases t5 : r2 < 0
    · go_wp2_with fail
      go_ret
      exact ⟨rfl, Below.refl _ _⟩
    go_wp2_with fail
    refine (params _ _ Ks Vs w (by have := HL1'.out; omega) (by have := HL2'.out; omega) S1.out S2.out H1.out H2.out).mono ?_
    rintro e w1 ⟨D, rfl, hel, hown, hb1⟩
    obtain ⟨S, hrun, hS⟩ := look hown
    have hss : S.size ≤ 1048576 := by simpa using hel _ _ hS
    have hrun' : (Instr.lookup 25 (.map (some w.heap.size)) (.string { data := #[101, 120, 116, 115, 95, 108, 105, 115, 116] }) true).run Tryd.prog w1 = .ok (.tuple #[.string S, .bool (Maps.has D nameK)]) w1 := hrun
    have hMlt := hown.lt
    have HO := Hid.mk' hown
    have HS := Hid.mk' hS
    have HB1 := Hid.mk' hb1
    obtain ⟨ok, hok⟩ : ∃ ok, Maps.has D nameK = ok := ⟨_, rfl⟩
    rw [hok] at hrun'
    have HK := Hid.mk' hok
    clear hrun hS hown hb1 hel hok
    go_wp2_with fail
    refine (exts_at w1 S HO.out HS.out (by omega) (HT.out.below HB1.out h0)).mono ?_
    rintro e w2 ⟨V1, A1, n1, hV1, hn1, rfl, hrow1, hb2⟩
    rw [HK.out]
    have R1 := Hid.mk' hrow1
    have HB2 := Hid.mk' hb2
    have hz2 := hb2.size
    clear hrow1 hb2 hrun' hV1 hn1
    go_wp2_with fail
    refine (nearNames w2).mono ?_
    rintro e w3 ⟨rfl, hnear, hb3, hz3⟩
    have NE := Hid.mk' hnear
    have HB3 := Hid.mk' hb3
    clear hnear hb3
    have hMN : w2.heap.size ≠ w.heap.size := by omega
    go_wp2_with fail
    go_loopw [14] (fun i wx => ∃ (k : Nat) (D' : MD), k ≤ 10 ∧ i = .int .i64 k ∧ Hid (wx.ownsMap Tryd.prog 9 (plainElem Tryd.prog 9) w.heap.size (65536 + k) D' ∧ D'.atKey nameK (.lit (.string [])) = .lit (.string S.data.toList) ∧ Maps.has D' nameK = ok ∧ w3.grownBy wx (some w.heap.size))) (fun i _ => 10 - (intOf i).toNat)
    case atStart => exact ⟨0, D, by omega, rfl, (HO.out.kept (grown_of_below HB2.out none) (by simp)).kept (grown_of_below HB3.out none) (by simp), HS.out, HK.out, World.grownBy.refl _ _⟩
    case round =>
      obtain ⟨k, D', hk, rfl, HR⟩ := hrel
      by_cases hlt : k < 10
      · obtain ⟨X, hX⟩ : ∃ X, nearB[k]? = some X := ⟨_, List.getElem?_eq_getElem hlt⟩
        have hap := near_apart X (List.mem_of_getElem? hX)
        have g1 : wr.cell? ⟨w2.heap.size, k, none⟩ = some (.string X) := HR.out.2.2.2.cell (NE.out k X hX) (by simp; omega)
        obtain ⟨wn, hst, hownn, hturn⟩ := World.ownsMap.store (t := 25) (e := 9) HR.out.1 law Tryd.underlying25 (by unfold maxLen; omega) (Go.WideMaps.keyOf_string_mk Tryd.underlying9 (s := X) (by unfold maxLen; omega)) (plainElem_string Tryd.underlying9 (s := c) (by unfold maxLen; omega))
        have hne : nameK ≠ .string X.data.toList := by
          intro e
          unfold nameK at e
          injection e with e
          exact hap.1 e.symm
        have HX : Hid (wn.ownsMap Tryd.prog 9 (plainElem Tryd.prog 9) w.heap.size (65536 + (k + 1)) (D'.put (.string X.data.toList) (.lit (.string c.data.toList))) ∧ (D'.put (.string X.data.toList) (.lit (.string c.data.toList))).atKey nameK (.lit (.string [])) = .lit (.string S.data.toList) ∧ Maps.has (D'.put (.string X.data.toList) (.lit (.string c.data.toList))) nameK = ok ∧ w3.grownBy wn (some w.heap.size)) :=
          ⟨hownn, by rw [atKey_put_other hne]; exact HR.out.2.1, by rw [has_put_other hne]; exact HR.out.2.2.1, HR.out.2.2.2.trans hturn.grown⟩
        clear hownn hturn hne hap hX
        go_wp2_with fail
        exact ⟨⟨k + 1, _, by omega, by go_num, HX⟩, by simp [intOf]; omega⟩
      · have HB4 : Hid (Below w.heap.size w wr) := Below.grown ((HB1.out.trans (HB2.out.mono (by omega))).trans (HB3.out.mono (by omega))) HR.out.2.2.2 (by omega) (fun j hj => by cases hj; exact Nat.le_refl _)
        have hz4 : w3.heap.size ≤ wr.heap.size := HR.out.2.2.2.size
        have R1' : Hid (Row w.heap.size wr V1 (words S)) := (R1.out.kept (grown_of_below HB3.out _)).kept HR.out.2.2.2
        go_wp2_with fail
        refine (exts_at wr S HR.out.1 HR.out.2.1 (by omega) (HT.out.below HB4.out h0)).mono ?_
        rintro e w5 ⟨V2, A2, n2, hV2, hn2, rfl, hrow2, hb5⟩
        rw [HR.out.2.2.1]
        have R2 := Hid.mk' hrow2
        have HB5 := Hid.mk' hb5
        have hz5 := hb5.size
        have R1'' : Hid (Row w.heap.size w5 V1 (words S)) := R1'.out.kept (grown_of_below HB5.out _)
        clear hrow2 hb5 hV2 hn2
        go_wp2_with fail
        refine (fields_at w.heap.size S w5 (by omega) (by omega)).mono ?_
        rintro e w6 ⟨V3, rfl, hrow3, hb6⟩
        have R3 := Hid.mk' hrow3
        have HB6 := Hid.mk' hb6
        have hz6 := hb6.size
        have Q1 : Hid (Row w.heap.size w6 V1 (words S)) := R1''.out.kept (grown_of_below HB6.out _)
        have Q2 : Hid (Row w.heap.size w6 V2 (words S)) := R2.out.kept (grown_of_below HB6.out _)
        have hwl : (words S).length ≤ 4000000 := by have := words_len S; omega
        clear hrow3 hb6
        go_wp2_with fail
        refine (same_at w.heap.size V1 V3 (words S) _ hwl Q1.out R3.out).mono ?_
        rintro e w7 ⟨rfl, n7, rfl⟩
        go_wp2_with fail
        refine (same_at w.heap.size V2 V3 (words S) (w6.drewN n7) hwl (Q2.out.kept (grown_drewN _ _ _)) (R3.out.kept (grown_drewN _ _ _))).mono ?_
        rintro e w8 ⟨rfl, n8, rfl⟩
        go_wp2_with fail
        go_ret
        exact ⟨rfl, below_drewN ((HB4.out.trans (HB5.out.mono (by omega))).trans (HB6.out.mono (by omega))) _⟩
end Go.Proofs.Qxb6618638aDoor.W
