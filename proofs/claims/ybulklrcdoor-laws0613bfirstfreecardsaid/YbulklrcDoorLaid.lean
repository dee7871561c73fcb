/-
  What the rows' condition (the listed tables) gives the walks; a slice of strings that came in.
-/
import Derived.Test.YbulklrcDoorFree
import Derived.ProofKit
import Derived.LaidMore
import Derived.OpenShut
import Derived.Stop.Joined
import Derived.SliceStrings
import Derived.ChangeOld
import Derived.Below
import Derived.SevenTiedAt
namespace Go.Proofs.YbulklrcDoor
open Go.ChangeShapes Go.WideShapes Go.ChangeAt Go.WideMaps Go.WideElems Go.RowKit
open Go.ChangeMaps (open_string shut_string)
set_option linter.unusedVariables false

theorem own : ownKnob Ybad.prog.godebug = none := by kernel_rfl

/-- The door's own heap meets the condition. -/
theorem door_met (os : Os) (args : Array Value) : laidMetH Ybad.prog Rows.lawS0613BFirstFreeRow.laid ((World.doorLaid Ybad.prog 400 os).forCall (fun _ _ => 0) ⟨#[], args, []⟩).memory :=
  laidMetH_of_parts3 (fuel := 8) (laidMet_of_run' 8 (by kernel_rfl) (by kernel_rfl)) (by kernel_rfl) (by kernel_rfl)

theorem tab_eq : (Rows.laid_internal_strconv_uint64pow10 : DataW Unit) = Lib.tabData .u64 Lib.pow10Tab := by kernel_rfl
theorem glob_type : (Ybad.prog.globals[0]?).map (·.type) = some 48 := by kernel_rfl
theorem cells41 : Ybad.prog.cellsOf 41 = 1 := by kernel_rfl
theorem cells48 : Ybad.prog.cellsOf 48 = 20 := by kernel_rfl

/-- What the condition gives the walks: the table that strconv.Itoa reads. -/
theorem of_laid {W : World} (h : laidMetH Ybad.prog Rows.lawS0613BFirstFreeRow.laid W) : Tab W := by
  rw [MakeChecks.laidMetH_plain _ _ _ (by kernel_rfl)] at h
  obtain ⟨ps, ⟨g0, t0, cs0, f0, p0, q0, hg0, ht0, hv0, hd0, ⟨g1, t1, cs1, f1, p1, q1, hg1, ht1, hv1, hd1, ⟨g2, t2, cs2, f2, p2, q2, hg2, ht2, hv2, hd2, _, _⟩, _⟩, _⟩, _, _⟩ := h
  obtain rfl := Option.some.inj (glob.symm.trans hg2)
  obtain rfl := Option.some.inj (glob_type.symm.trans ht2)
  rw [tab_eq] at hd2
  have hv2' : W.var? Ybad.prog Ybad.pow10Name = some cs2 := hv2
  unfold Tab Lib.TabIs
  rw [hv2', ← Lib.cells_of_tab Ybad.underlying48 Ybad.underlying41 cells41 cells48 hd2]

/-- What a slice of strings that came in is to the walks. -/
theorem open_strSlice {H : Type} {enc : TypeId × Value → H} {W : World} {a : Option Addr} {len cap : Nat} {d : DataW H} {p : List MemPlace} (h : DataW.Trod enc Ybad.prog W 0 (fun _ => true) true 22 (.slice a len cap) d p) :
    ∃ ss, StrSlice W a len ss ∧ ∀ k, k < len → (ss.getD k ByteArray.empty).size ≤ maxLen := by
  obtain ⟨fuel, hf⟩ := h
  rcases open_strings Ybad.underlying22 Ybad.underlying9 (by kernel_rfl) hf with ⟨hcs, _⟩ | ⟨x, l, c, ss, hcs, _, hl, hm, hz, _, hcell, hws⟩
  · simp [Value.cells] at hcs
    obtain ⟨rfl, rfl, rfl⟩ := hcs
    exact ⟨[], ⟨rfl, fun h => absurd h (by omega)⟩, fun k hk => absurd hk (by omega)⟩
  · simp [Value.cells] at hcs
    obtain ⟨rfl, rfl, rfl⟩ := hcs
    have hz' : ss.length = cap := by simpa using hz
    refine ⟨ss.take len, ⟨by rw [List.length_take]; omega, fun h0 => ?_⟩, fun k hk => ?_⟩
    · obtain ⟨b, off, spot⟩ := x
      have hspot : spot = none := by simpa [Addr.add] using World.cell?_spot (hcell 0 (by omega))
      subst hspot
      refine ⟨b, off, rfl, fun k hk => ?_⟩
      rw [← Go.WideShapes.add_plain, hcell k (by omega)]
      simp [List.getD, hk]
    · have hk' : k < ss.length := by omega
      have : (ss.take len).getD k ByteArray.empty = ss[k] := by simp [List.getD, hk, List.getElem?_eq_getElem hk']
      rw [this]
      exact hws _ (List.getElem_mem _)
end Go.Proofs.YbulklrcDoor
