/-
  '(*Owner).Reset' (function 14), walked, over a list of held locks that is not nil.
-/
import Derived.Test.YbulklqoRows
import Derived.WalkKit
import Derived.ProofKit
import Derived.OpenShut
import Derived.ShutString
import Derived.WalkSpells
import Derived.WalkLawsBesides
import Derived.Lib.SliceRun
import Derived.Deep.QuietTactic
import Derived.BigQuiet
import Derived.BigRegion
import Derived.Laws.MakeOwn
import Derived.Lib.SlBuf
namespace Go.Proofs.Ybulklqo
open Go.ChangeShapes Go.WideShapes Go.ChangeAt Go.RowKit
set_option linter.unusedVariables false


/-- What an Owner's list of held locks is behind Reset. -/
def heldOf (b c : Nat) : Value := if 64 < c then .slice none 0 0 else .slice (some ⟨b, 0, none⟩) 0 c

set_option maxRecDepth 100000 in
set_option maxHeartbeats 1000000 in
theorem reset_core (ob b n c : Nat) (t0 t : Int) (v2 : Value) (w w1 : World) (g1 : w.cell? ⟨ob, 1, none⟩ = some (.slice (some ⟨b, 0, none⟩) n c))
    (hcl : ∀ ty, (Builtin.clear_ #[80] ty #[.slice (some ⟨b, 0, none⟩) n c]).run Yba.prog w = .ok (.tuple #[]) w1)
    (h0 : w1.cell? ⟨ob, 0, none⟩ = some (.int .i64 t0)) (h1 : w1.cell? ⟨ob, 1, none⟩ = some (.slice (some ⟨b, 0, none⟩) n c)) (h2 : w1.cell? ⟨ob, 2, none⟩ = some v2)
    (f0 : w1.frozen? ⟨ob, 0, none⟩ = false) (f1 : w1.frozen? ⟨ob, 1, none⟩ = false) (f2 : w1.frozen? ⟨ob, 2, none⟩ = false) (hnc : n ≤ c) :
    Calls Yba.prog 14 #[.pointer (some ⟨ob, 0, none⟩), .int .i64 t] w fun e w' => e = .returned (.tuple #[]) ∧ w'.cell? ⟨ob, 0, none⟩ = some (.int .i64 t) ∧ w'.cell? ⟨ob, 1, none⟩ = some (heldOf b c) ∧ w'.cell? ⟨ob, 2, none⟩ = some (.pointer none) ∧
      (∀ j o, j ≠ ob → w'.cell? ⟨j, o, none⟩ = w1.cell? ⟨j, o, none⟩) ∧ ∀ B, B ≤ ob → Below B w1 w' := by
  by_cases hc : (64 : Int) < (c : Int)
  · have hc' : 64 < c := by omega
    go_enter Yba.func14, Yba.ntmps14
    go_wp2
    go_region
    go_wp2
    go_end0
    refine ⟨rfl, ?_, ?_, ?_, ?_, ?_⟩
    · go_simp
    · unfold heldOf; rw [if_pos hc']
      exact World.cell?_setCell_same _ _ _ (u := .slice (some ⟨b, 0, none⟩) 0 c) (by go_simp)
    · go_simp
    · intro j o hj
      go_simp
    · intro B hB
      exact (((((Below.refl _ _).setCell hB _).setCell hB _).setCell hB _).setCell hB _).drew
  · have hc' : ¬ 64 < c := by omega
    go_enter Yba.func14, Yba.ntmps14
    go_wp2
    go_region
    go_wp2
    go_end0
    refine ⟨rfl, ?_, ?_, ?_, ?_, ?_⟩
    · go_simp
    · unfold heldOf; rw [if_neg hc']; go_simp
    · go_simp
    · intro j o hj
      go_simp
    · intro B hB
      exact ((((Below.refl _ _).setCell hB _).setCell hB _).setCell hB _).drew

theorem zero113 (w : World) : (zeroValue 113).run Yba.prog w = .ok (.pointer none) w := by kernel_rfl

theorem reset_any (ob b n c : Nat) (t0 t : Int) (v2 : Value) (w : World)
    (h0 : w.cell? ⟨ob, 0, none⟩ = some (.int .i64 t0)) (h1 : w.cell? ⟨ob, 1, none⟩ = some (.slice (some ⟨b, 0, none⟩) n c)) (h2 : w.cell? ⟨ob, 2, none⟩ = some v2)
    (f0 : w.frozen? ⟨ob, 0, none⟩ = false) (f1 : w.frozen? ⟨ob, 1, none⟩ = false) (f2 : w.frozen? ⟨ob, 2, none⟩ = false) (hnc : n ≤ c) (hne : b ≠ ob)
    (hcs : ∀ j, j < n → (w.cell? ⟨b, j, none⟩).isSome = true) (hfs : ∀ j, j < n → w.frozen? ⟨b, j, none⟩ = false) :
    Calls Yba.prog 14 #[.pointer (some ⟨ob, 0, none⟩), .int .i64 t] w fun e w' => e = .returned (.tuple #[]) ∧ w'.cell? ⟨ob, 0, none⟩ = some (.int .i64 t) ∧ w'.cell? ⟨ob, 1, none⟩ = some (heldOf b c) ∧ w'.cell? ⟨ob, 2, none⟩ = some (.pointer none) ∧
      (∀ j, j < n → w'.cell? ⟨b, j, none⟩ = some (.pointer none)) ∧ ∀ B, B ≤ ob → B ≤ b → Below B w w' := by
  by_cases hn : 0 < n
  · have hcl := fun ty => Lib.run_clear_slice (P := Yba.prog) w 80 113 ty (.pointer none) Yba.underlying80 zero113 rfl rfl b 0 n c hn (by simpa using hcs) (by simpa using hfs)
    have hout : ∀ o, (w.setCells b 0 (List.replicate n (.pointer none))).cell? ⟨ob, o, none⟩ = w.cell? ⟨ob, o, none⟩ := fun o => World.cell?_setCells_out b _ 0 w _ (fun e => absurd e.symm hne)
    have hfr : ∀ x, (w.setCells b 0 (List.replicate n (.pointer none))).frozen? x = w.frozen? x := fun x => World.frozen?_setCells b _ 0 w x
    refine (reset_core ob b n c t0 t v2 w _ h1 hcl ((hout 0).trans h0) ((hout 1).trans h1) ((hout 2).trans h2) ((hfr _).trans f0) ((hfr _).trans f1) ((hfr _).trans f2) hnc).mono ?_
    rintro e w' ⟨rfl, k0, k1, k2, k3, k4⟩
    refine ⟨rfl, k0, k1, k2, fun j hj => ?_, fun B hB hb => (Lib.below_setCells b hb _ 0 (Below.refl B w)).trans (k4 B hB)⟩
    rw [k3 b j hne]
    have := World.cell?_setCells_in b (List.replicate n (.pointer none)) 0 w (by simpa using hcs) j (by simpa using hj)
    simpa using this
  · obtain rfl : n = 0 := by omega
    have hcl : ∀ ty, (Builtin.clear_ #[80] ty #[.slice (some ⟨b, 0, none⟩) 0 c]).run Yba.prog w = .ok (.tuple #[]) w := fun ty => by
      simp [Builtin.clear_, run_underlying Yba.underlying80]
    refine (reset_core ob b 0 c t0 t v2 w w h1 hcl h0 h1 h2 f0 f1 f2 hnc).mono ?_
    rintro e w' ⟨rfl, k0, k1, k2, k3, k4⟩
    exact ⟨rfl, k0, k1, k2, fun j hj => absurd hj (by omega), fun B hB hb => k4 B hB⟩
end Go.Proofs.Ybulklqo
