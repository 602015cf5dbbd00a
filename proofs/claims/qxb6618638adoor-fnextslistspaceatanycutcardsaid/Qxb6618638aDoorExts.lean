/-
  extsList and ZZextsList over the shelf's strings.Fields.
-/
import Derived.Test.Qxb6618638aDoorParams
import Derived.Test.Qxb6618638aDoorShelf
import Derived.WalkSmall
namespace Go.Proofs.Qxb6618638aDoor.W
open Go.ChangeShapes Go.WideShapes Go.ChangeAt Go.RowKit Go.Maps
set_option linter.unusedVariables false

/-- The library's two tables, as their initialisers lay them. -/
def Tabs (w : World) : Prop := Lib.TabIs Tryd.prog w "strings.asciiSpace" .u8 Lib.asciiSpaceTab ∧ Lib.WhiteTab 1 w

theorem gT : Tryd.prog.globalNamed "strings.asciiSpace" = some 0 := by kernel_rfl

theorem Tabs.below {w w' : World} (h : Tabs w) (hb : Below w.heap.size w w') (h0 : 0 < w.heap.size) : Tabs w' :=
  ⟨Go.var?_below hb gT h0 h.1, WhiteTab_below h.2 hb⟩

/-- The parameter's name, as the program holds it; and as a key of a map. -/
def nameB : ByteArray := { data := #[101, 120, 116, 115, 95, 108, 105, 115, 116] }
def nameK : Lit := .string nameB.data.toList
theorem nameKey : keyOf Tryd.prog 9 (.string nameB) = some nameK := Go.WideMaps.keyOf_string_mk Tryd.underlying9 (by decide)

theorem zero9 (w : World) : (zeroValue 9).run Tryd.prog w = .ok (.string ByteArray.empty) w := by kernel_rfl

/-- 'v, ok := m[name]'. -/
theorem look {w : World} {B n : Nat} {D : MD} (h : w.ownsMap Tryd.prog 9 (plainElem Tryd.prog 9) B n D) :
    ∃ S : ByteArray, (Instr.lookup 25 (.map (some B)) (.string nameB) true).run Tryd.prog w = .ok (.tuple #[.string S, .bool (Maps.has D nameK)]) w ∧ D.atKey nameK (.lit (.string [])) = .lit (.string S.data.toList) := by
  obtain ⟨v, ps, hrun, hv⟩ := h.look_ok (t := 25) (e := 9) law Tryd.underlying25 (zero9 w) (plainElem_string Tryd.underlying9 (s := ByteArray.empty) (by decide)) nameKey
  obtain ⟨S, rfl, hS, _⟩ := plainElem_string_inv Tryd.underlying9 hv
  simp only [Prod.mk.injEq] at hS
  exact ⟨S, hrun, hS.1⟩

set_option maxHeartbeats 1000000 in
theorem extsList {B n : Nat} {D : MD} (w : World) (S : ByteArray) (hown : w.ownsMap Tryd.prog 9 (plainElem Tryd.prog 9) B n D) (hS : D.atKey nameK (.lit (.string [])) = .lit (.string S.data.toList)) (hs : S.size ≤ 3000000) (hT : Tabs w) :
    Calls Tryd.prog 13 #[.map (some B)] w fun e w' => ∃ A, e = .returned (.tuple #[.slice (some ⟨A, 0, none⟩) (Lib.fieldsD S.data.toList).length (Lib.fieldsD S.data.toList).length, .bool (Maps.has D nameK)]) ∧ w'.ownsRow w.heap.size 9 1 (.slice (some ⟨A, 0, none⟩) (Lib.fieldsD S.data.toList).length (Lib.fieldsD S.data.toList).length) (Lib.fieldsD S.data.toList).length ((Lib.fieldsD S.data.toList).map encS) ∧ Below w.heap.size w w' := by
  obtain ⟨S', hrun, hS'⟩ := look hown
  have e : S' = S := by
    rw [hS] at hS'
    cases S'; cases S
    simp at hS'
    simp [hS']
  subst e
  have hrun' : (Instr.lookup 25 (.map (some B)) (.string { data := #[101, 120, 116, 115, 95, 108, 105, 115, 116] }) true).run Tryd.prog w = .ok (.tuple #[.string S', .bool (Maps.has D nameK)]) w := hrun
  clear hrun hS hS'
  generalize Maps.has D nameK = ok at *
  go_enter Tryd.func13, Tryd.ntmps13
  go_wp2_with (go_at_call 15; refine (Tryd.strings_Fields_any _ _ (by omega) hT.1 hT.2).mono ?_; rintro e w' ⟨A, rfl, hA, hrow, hbel⟩)
  go_ret2
  exact ⟨A, rfl, hrow, hbel⟩

set_option maxHeartbeats 1000000 in
theorem zzExtsList {B n : Nat} {D : MD} (w : World) (S : ByteArray) (hown : w.ownsMap Tryd.prog 9 (plainElem Tryd.prog 9) B n D) (hS : D.atKey nameK (.lit (.string [])) = .lit (.string S.data.toList)) (hs : S.size ≤ 3000000) (hT : Tabs w) :
    Calls Tryd.prog 8 #[.map (some B)] w fun e w' => ∃ A, e = .returned (.tuple #[.slice (some ⟨A, 0, none⟩) (Lib.fieldsD S.data.toList).length (Lib.fieldsD S.data.toList).length, .bool (Maps.has D nameK)]) ∧ w'.ownsRow w.heap.size 9 1 (.slice (some ⟨A, 0, none⟩) (Lib.fieldsD S.data.toList).length (Lib.fieldsD S.data.toList).length) (Lib.fieldsD S.data.toList).length ((Lib.fieldsD S.data.toList).map encS) ∧ Below w.heap.size w w' := by
  have c := extsList w S hown hS hs hT
  have C := Hid.mk' c
  clear c hown hS hT
  go_enter Tryd.func8, Tryd.ntmps8
  go_wp2_with (go_at_call 13; refine C.out.mono ?_; rintro e w' ⟨A, rfl, hrow, hbel⟩)
  go_ret2
  exact ⟨A, rfl, hrow, hbel⟩
end Go.Proofs.Qxb6618638aDoor.W
