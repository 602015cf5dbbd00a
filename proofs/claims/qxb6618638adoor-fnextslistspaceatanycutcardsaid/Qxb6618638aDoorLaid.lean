/-
  From the row's condition on the listed variables to the two tables; the witness's world; a slice of strings that came in.
-/
import Derived.Test.Qxb6618638aDoorRows
import Derived.Test.Qxb6618638aDoorExts
import Derived.Lib.LaidU8
import Derived.LaidMore
import Derived.ProofKit
import Derived.OpenShut
import Derived.SliceStrings
import Derived.Stop.Joined
namespace Go.Proofs.Qxb6618638aDoor
open Go.ChangeShapes Go.WideShapes Go.ChangeAt Go.RowKit
set_option linter.unusedVariables false

theorem own : ownKnob Tryd.prog.godebug = none := by kernel_rfl
theorem laidOut : laidOutB Tryd.prog = true := by kernel_rfl
theorem gTType : (Tryd.prog.globals[0]?).map (·.type) = some 35 := by kernel_rfl
theorem cells5 : Tryd.prog.cellsOf 5 = 1 := by kernel_rfl
theorem cells9 : Tryd.prog.cellsOf 9 = 1 := by kernel_rfl
theorem cells35 : Tryd.prog.cellsOf 35 = 256 := by kernel_rfl

def laid2 : List (String × DataW Unit) := [("unicode.White_Space", Rows.laid_unicode_White_Space), ("strings.asciiSpace", Rows.laid_strings_asciiSpace)]

theorem white_same : (Rows.laid_unicode_White_Space : DataW Unit) = Lib.whiteData := by kernel_rfl
theorem ascii_same : (Rows.laid_strings_asciiSpace : DataW Unit) = Lib.tabData .u8 Lib.asciiSpaceTab := by kernel_rfl

theorem tabs_of_laid {w : World} (h : laidMetH Tryd.prog laid2 w) : W.Tabs w := by
  rw [MakeChecks.laidMetH_plain _ _ _ (by kernel_rfl)] at h
  have h1 : Lib.VarReads Tryd.prog w "unicode.White_Space" Lib.whiteData := by
    rw [← white_same]
    exact Lib.laidMet.reads h (.head _)
  have h2 : Lib.VarReads Tryd.prog w "strings.asciiSpace" (Lib.tabData .u8 Lib.asciiSpaceTab) := by
    rw [← ascii_same]
    exact Lib.laidMet.reads h (.tail _ (.head _))
  refine ⟨?_, whiteTab_of_reads Tryd.lays199 ⟨by kernel_rfl, by kernel_rfl, by kernel_rfl, by kernel_rfl, by kernel_rfl, by kernel_rfl, by kernel_rfl, by kernel_rfl⟩ h1⟩
  obtain ⟨g, t, cs, fuel, p, hg, hty, hvar, hd⟩ := h2
  obtain rfl := Option.some.inj (W.gT.symm.trans hg)
  obtain rfl := Option.some.inj (gTType.symm.trans hty)
  unfold Lib.TabIs
  rw [hvar, ← Lib.cells_of_tab Tryd.underlying35 Tryd.underlying5 cells5 cells35 hd]

/-- The door's own heap meets the condition. -/
theorem door_met (os : Os) (args : Array Value) : laidMetH Tryd.prog laid2 ((World.doorLaid Tryd.prog 400 os).forCall (fun _ _ => 0) ⟨#[], args, []⟩).memory :=
  laidMetH_of_parts3 (fuel := 8) (laidMet_of_run' 8 (by kernel_rfl) (by kernel_rfl)) (by kernel_rfl) (by kernel_rfl)

theorem cell_lt {w : World} {a : Addr} {v : Value} (h : w.cell? a = some v) : a.block < w.heap.size := by
  rcases Nat.lt_or_ge a.block w.heap.size with h' | h'
  · exact h'
  · simp [World.cell?, Array.getElem?_eq_none h'] at h

/-- A []string THAT CAME IN, nil or not, AS THE WALKS WANT IT. -/
theorem open_arg {H : Type} {enc : TypeId × Value → H} {w : World} {a0 : Option Addr} {len cap fuel : Nat} {x : DataW H × List MemPlace}
    (hf : DataW.trod enc Tryd.prog w 0 (fun _ => true) true fuel 22 [.slice a0 len cap] = some x) :
    ∃ Xs : List ByteArray, W.Strs w (.slice a0 len cap) Xs ∧ Xs.length ≤ maxLen ∧ ∀ X ∈ Xs, X.size ≤ maxLen := by
  rcases open_strings Tryd.underlying22 Tryd.underlying9 cells9 hf with ⟨hcs, hx⟩ | ⟨a, len', cap', ss, hcs, _, hl, hm, hz, hx, hcell, hss⟩
  · simp at hcs
    obtain ⟨rfl, rfl, rfl⟩ := hcs
    exact ⟨[], ⟨none, 0, 0, 0, rfl, fun h => absurd h (by simp), fun j X h => by simp at h⟩, by simp, by simp⟩
  · simp at hcs
    obtain ⟨rfl, rfl, rfl⟩ := hcs
    simp only [if_true] at hz
    obtain ⟨b, off, spot⟩ := a
    have hlen : (ss.take len).length = len := by simp; omega
    refine ⟨ss.take len, ⟨some ⟨b, off, spot⟩, b, off, cap, by rw [hlen], fun h0 => ?_, fun j X hX => ?_⟩, by rw [hlen]; omega, fun X hX => hss X (List.mem_of_mem_take hX)⟩
    · have hspot : spot = none := by simpa [Addr.add] using World.cell?_spot (hcell 0 (by omega))
      subst hspot
      exact ⟨rfl, by simpa [Addr.add] using cell_lt (hcell 0 (by omega))⟩
    · have hj : j < len := by
        have := (List.getElem?_eq_some_iff.1 hX).1
        simp at this
        omega
      have hspot : spot = none := by simpa [Addr.add] using World.cell?_spot (hcell 0 (by omega))
      subst hspot
      have hX' : ss.getD j ByteArray.empty = X := by
        rw [List.getElem?_take_of_lt hj] at hX
        simp [List.getD, hX]
      rw [← add_plain, ← hX']
      exact hcell j (by omega)
end Go.Proofs.Qxb6618638aDoor
