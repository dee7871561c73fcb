/-
  THE PROOF OF 'Rows.LawS0602CNilAcceptedSaid': the given shell, its hole filled; the walk ends in 'Below' (nothing that was there has turned) where the shell said 'Grown'.
-/
import Derived.Test.YbulklleRows
import Derived.WalkKit
import Derived.ProofKit
import Derived.OpenShut
import Derived.ShutString
import Derived.Test.YbulklleHigh
import Derived.WalkSpells
namespace Go.Proofs.Ybulklle.lawS0602CNilAccepted
open Go.ChangeShapes Go.WideShapes Go.ChangeAt Go.RowKit
open Go.ChangeMaps (open_string shut_string)
set_option linter.unusedVariables false      -- a walk need not use every 'w<i>' (that an integer argument fits its kind)

theorem own : ownKnob Yba.prog.godebug = none := by kernel_rfl

/-! ### STEP 1: THE WALK -/
set_option maxRecDepth 100000 in
set_option maxHeartbeats 400000 in
theorem walk (a0 : Int) (a1 : Int) (a2 : Int) (w0 : (Lit.int .u64 a0).wf = true) (w1 : (Lit.int .u64 a1).wf = true) (w2 : (Lit.int .u64 a2).wf = true) (w : World) :
    Calls Yba.prog 4 #[.int .u64 a0, .int .u64 a1, .int .u64 a2] w fun e w' => e = .returned (.bool true) ∧ Below w.heap.size w w' := by
  obtain ⟨l0, u0⟩ := bounds_u64 w0
  obtain ⟨l1, u1⟩ := bounds_u64 w1
  obtain ⟨l2, u2⟩ := bounds_u64 w2
  have heq := fun W => run_eql_map_nil (P := Yba.prog) W 24 22 33 none Yba.underlying24
  have hcell : ∀ k, k < 108 → (w.alloc (Obj.cells (nodeOf a0 a1 a2 none) 74)).cell? ⟨w.heap.size, k, none⟩ = (nodeOf a0 a1 a2 none)[k]? := fun k hk => by
    simp only [World.cell?, (MapKept.heap_alloc w _).1]
    rfl
  have c59 := hcell 59 (by omega)
  have c60 := hcell 60 (by omega)
  have c23 := hcell 23 (by omega)
  have c15 := hcell 15 (by omega)
  rw [show (nodeOf a0 a1 a2 none)[59]? = some (.int .u64 a0) from rfl] at c59
  rw [show (nodeOf a0 a1 a2 none)[60]? = some (.int .u64 a1) from rfl] at c60
  rw [show (nodeOf a0 a1 a2 none)[23]? = some (.int .u64 a2) from rfl] at c23
  rw [show (nodeOf a0 a1 a2 none)[15]? = some (.map none) from rfl] at c15
  clear hcell
  go_enter Yba.func4, Yba.ntmps4
  go_wp2_with (refine wpList_build_at rfl 74 _ rfl (nodeOf a0 a1 a2 none) (by kernel_rfl) ?_)
  refine (high_nil w.heap.size a0 a1 a2 _ l0 (by omega) l1 (by omega) l2 (by omega) c59 c60 c23 c15).mono ?_
  rintro e w1 ⟨rfl, hb⟩
  have d59 := (hb.cell (p := ⟨w.heap.size, 59, none⟩) (by simp)).trans c59
  have d60 := (hb.cell (p := ⟨w.heap.size, 60, none⟩) (by simp)).trans c60
  have d23 := (hb.cell (p := ⟨w.heap.size, 23, none⟩) (by simp)).trans c23
  have d15 := (hb.cell (p := ⟨w.heap.size, 15, none⟩) (by simp)).trans c15
  clear c59 c60 c23 c15
  have hBel : Below w.heap.size w w1 := ((Below.refl _ _).alloc (Nat.le_refl _) _).trans (hb.mono (by simp))
  clear hb
  have r0 : a0 ≤ hi0 a0 a1 a2 := by unfold hi0; split <;> omega
  have r1 : a1 ≤ hi0 a0 a1 a2 := by unfold hi0; split <;> omega
  have r2 : 0 < a2 → a2 - 1 ≤ hi0 a0 a1 a2 := by intro h; unfold hi0; split <;> omega
  have r3 : hi0 a0 a1 a2 = a0 ∨ hi0 a0 a1 a2 = a1 ∨ (0 < a2 ∧ hi0 a0 a1 a2 = a2 - 1) := by unfold hi0; split <;> omega
  generalize hi0 a0 a1 a2 = r at *
  have hcs : ((r != a0) = false ∧ 0 < a2) ∨ ((r != a0) = false ∧ a2 ≤ 0) ∨ ((r != a0) = true ∧ (r != a1) = false ∧ 0 < a2) ∨ ((r != a0) = true ∧ (r != a1) = false ∧ a2 ≤ 0) ∨ ((r != a0) = true ∧ (r != a1) = true ∧ 0 < a2 ∧ (r != a2 - 1) = false) := by
    by_cases e0 : r = a0
    · by_cases h : 0 < a2
      · exact .inl ⟨by simp [e0], h⟩
      · exact .inr (.inl ⟨by simp [e0], by omega⟩)
    · by_cases e1 : r = a1
      · by_cases h : 0 < a2
        · exact .inr (.inr (.inl ⟨by simp [e0], by simp [e1], h⟩))
        · exact .inr (.inr (.inr (.inl ⟨by simp [e0], by simp [e1], by omega⟩)))
      · have h2 : 0 < a2 ∧ r = a2 - 1 := by omega
        exact .inr (.inr (.inr (.inr ⟨by simp [e0], by simp [e1], h2.1, by simp [h2.2]⟩)))
  have H3 : Hid (r = a0 ∨ r = a1 ∨ 0 < a2 ∧ r = a2 - 1) := r3
  clear r3
  have n0 : ¬ r < a0 := by omega
  have n1 : ¬ r < a1 := by omega
  have n2 : 0 < a2 → ¬ r < a2 - 1 := by intro h; have := r2 h; omega
  rcases hcs with ⟨q1, q2⟩ | ⟨q1, q2⟩ | ⟨q1, q2, q3⟩ | ⟨q1, q2, q3⟩ | ⟨q1, q2, q3, q4⟩
  · have n2' := n2 q2
    go_wp2
    go_ret
    exact ⟨rfl, hBel⟩
  · go_wp2
    go_ret
    exact ⟨rfl, hBel⟩
  · have n2' := n2 q3
    go_wp2
    go_ret
    exact ⟨rfl, hBel⟩
  · go_wp2
    go_ret
    exact ⟨rfl, hBel⟩
  · have n2' := n2 q3
    go_wp2
    go_ret
    exact ⟨rfl, hBel⟩

/-! ### THE ROW's STEP: WRITTEN OUT: LEAVE IT -/
set_option maxRecDepth 100000 in
theorem lifted (os : Os) (started : os.Started) (H : Type) (enc : TypeId × Value → H) :
    ReturnsInHanded {} Yba.checked os 4 .any (Rows.lawS0602CNilAcceptedSpec.pre6 enc Yba.prog Yba.f4 Rows.lawS0602CNilAcceptedRow.domain false) (Rows.lawS0602CNilAcceptedSpec.post enc Yba.prog Yba.f4 false true false false) := by
  refine returnsInHanded_of_change (C := Yba.checked) own started (by kernel_rfl) Yba.func4
    (ChangeSpec.witness6 (enc := enc) (C := Yba.checked) false ⟨#[], #[.int .u64 0, .int .u64 0, .int .u64 0], []⟩ 8 (by kernel_rfl) (by kernel_rfl) (by kernel_rfl) (by kernel_rfl)) ?_
  intro W base args ds gs before hval0 hW hcnd _
  have hval : ∀ (j : Nat) t v, Yba.f4.params[j]? = some t → args[j]? = some v → Value.okWide Yba.prog W .any base t v := hval0
  have hW' := hW
  obtain ⟨p, q, hA0, hV, rfl, hfz, hnd⟩ := hW
  have hA : DataW.TrodAll enc Yba.prog W 0 (fun _ => true) true Yba.f4.params.toList args.toList ds p := hA0
  rw [Yba.params4] at hA hval
  obtain ⟨v0, vs0, d0, ds0, p0, q0, hargs, rfl, rfl, h0, r0⟩ := trodAll_cons hA
  obtain ⟨v1, vs1, d1, ds1, p1, q1, rfl, rfl, rfl, h1, r1⟩ := trodAll_cons r0
  obtain ⟨v2, vs2, d2, ds2, p2, q2, rfl, rfl, rfl, h2, r2⟩ := trodAll_cons r1
  obtain ⟨rfl, rfl, rfl⟩ := trodAll_nil r2
  obtain rfl : args = #[v0, v1, v2] := by cases args; simp_all
  obtain ⟨rfl, rfl⟩ := trodVars_none hV
  obtain ⟨a0, rfl, rfl, rfl, w0⟩ := open_int Yba.underlying22 (hval 0 22 v0 rfl rfl) h0
  obtain ⟨a1, rfl, rfl, rfl, w1⟩ := open_int Yba.underlying22 (hval 1 22 v1 rfl rfl) h1
  obtain ⟨a2, rfl, rfl, rfl, w2⟩ := open_int Yba.underlying22 (hval 2 22 v2 rfl rfl) h2
  clear hA0 hval0
  refine (walk a0 a1 a2 w0 w1 w2 W).mono fun e W' ⟨he, bel⟩ => ?_
  subst he
  exact ⟨_, rfl, _, _, _, [], _, [], hW', trodAll_mk1 (shut_bool Yba.underlying4 _), (trodAll_cons_mk (shut_int Yba.underlying22 w0) (trodAll_cons_mk (shut_int Yba.underlying22 w1) (trodAll_cons_mk (shut_int Yba.underlying22 w2) trodAll_mk0))), rfl, bel.frame _, fun h => by cases h⟩

theorem over : Rows.lawS0602CNilAcceptedRow.holds Yba.pinned (OpenSpec.ofChange Rows.lawS0602CNilAcceptedSpec) :=
  OpenClaim.holds_of_wide 4 Yba.f4 rfl rfl rfl rfl rfl rfl rfl ⟨rfl, rfl, rfl, rfl, rfl⟩ rfl rfl rfl rfl rfl (by kernel_rfl) Yba.func4 (by kernel_rfl)
    (of_decide_eq_true (by kernel_rfl)) (by unfold Func.isWrapper; first | (rw [if_pos (by decide +kernel)]; kernel_rfl) | (rw [if_neg (by decide +kernel)]; exact ⟨rfl, rfl⟩))
    (fun os started H enc _ => lifted os started H enc)

/-- ████ THE STATEMENT ████ -/
theorem proved : Rows.LawS0602CNilAcceptedSaid :=
  over
end Go.Proofs.Ybulklle.lawS0602CNilAccepted
namespace Go.Proofs.Ybulklle
theorem lawS0602CNilAcceptedProved : Rows.LawS0602CNilAcceptedSaid := lawS0602CNilAccepted.proved
end Go.Proofs.Ybulklle
