/-
  THE PROOF OF 'Rows.LawS0612ASiblingSaid': the given shell, its hole filled.
-/
import Derived.Test.YbulklqoRows
import Derived.WalkKit
import Derived.ProofKit
import Derived.OpenShut
import Derived.ShutString
import Derived.Test.YbulklqoPtr
namespace Go.Proofs.Ybulklqo.lawS0612ASibling
open Go.ChangeShapes Go.WideShapes Go.ChangeAt Go.RowKit
open Go.ChangeMaps (open_string shut_string)
set_option linter.unusedVariables false

theorem own : ownKnob Yba.prog.godebug = none := by kernel_rfl

/-! ### STEP 1: THE WALK -/
/-- Two pointers to different blocks, both rows of cells, are not one. -/
theorem neq_other (W : World) {a b : Nat} {ca cb : Array Value} (hne : a ≠ b) (ha : W.heap[a]? = some (.cells ca 29 (0, 0))) (hb : W.heap[b]? = some (.cells cb 29 (0, 0))) :
    (binOp .neq 22 (.pointer (some ⟨a, 0, none⟩)) (.pointer (some ⟨b, 0, none⟩))).run Yba.prog W = .ok (.bool true) W := by
  obtain ⟨j, hj, hsz⟩ := info29
  have h : ∀ d : Nat, (Op.equalIn (d + 1) 22 (.pointer (some ⟨a, 0, none⟩)) (.pointer (some ⟨b, 0, none⟩))).run Yba.prog W = .ok false W := fun d => by
    simp [Op.equalIn, run_underlying Yba.underlying22, sizeOf, typeInfo, hj, hsz, run_sameAddr_other W (a := ⟨a, 0, none⟩) (b := ⟨b, 0, none⟩) (fun h => hne (congrArg Addr.block h)) ha hb]
  simp only [binOp]
  simp [Op.equal, Op.maxDepth, h 9999]

theorem neq_two (w : World) (c1 c2 c3 : Array Value) :
    (binOp .neq 22 (.pointer (some ⟨w.heap.size, 0, none⟩)) (.pointer (some ⟨w.heap.size + 1, 0, none⟩))).run Yba.prog (((w.alloc (.cells c1 29)).alloc (.cells c2 29)).alloc (.cells c3 29)) = .ok (.bool true) (((w.alloc (.cells c1 29)).alloc (.cells c2 29)).alloc (.cells c3 29)) := by
  have h1 : (((w.alloc (.cells c1 29)).alloc (.cells c2 29)).alloc (.cells c3 29)).heap[w.heap.size]? = some (.cells c1 29 (0, 0)) := by
    rw [Below.heap_alloc _ _ _ (by simp; omega), Below.heap_alloc _ _ _ (by simp), (MapKept.heap_alloc w _).1]
  have h2 : (((w.alloc (.cells c1 29)).alloc (.cells c2 29)).alloc (.cells c3 29)).heap[w.heap.size + 1]? = some (.cells c2 29 (0, 0)) := by
    rw [Below.heap_alloc _ _ _ (by simp)]
    have := (MapKept.heap_alloc (w.alloc (.cells c1 29)) (.cells c2 29)).1
    simpa using this
  exact neq_other _ (by omega) h1 h2

set_option maxRecDepth 100000 in
set_option maxHeartbeats 1000000 in
theorem walk (a0 : Bool) (a1 : Int) (a2 : Int) (a3 : Bool) (a4 : Bool) (w1 : (Lit.int .u8 a1).wf = true) (w2 : (Lit.int .i64 a2).wf = true) (w : World) :
    Calls Yba.prog 4 #[.bool a0, .int .u8 a1, .int .i64 a2, .bool a3, .bool a4] w fun e w' => e = .returned (.bool true) ∧ Grown w w' := by
  have hsm := neq_same
  have hse := eql_same
  have hno := neq_two w
  cases a0
  · cases a3 <;> cases a4
    all_goals
      go_enter Yba.func4, Yba.ntmps4
      go_wp2_with fail
      refine (mode_any _ _ w1 _).mono ?_
      rintro e w' ⟨m, rfl, rfl⟩
      cases hm : (m == 2)
      all_goals
        go_wp2
        go_ret
        exact ⟨rfl, by repeat (first | exact Grown.refl _ | apply Grown.drew | apply Grown.alloc)⟩
  · go_enter Yba.func4, Yba.ntmps4
    go_wp2
    go_ret
    exact ⟨rfl, by repeat (first | exact Grown.refl _ | apply Grown.drew | apply Grown.alloc)⟩

/-! ### THE ROW's STEP: WRITTEN OUT: LEAVE IT -/
set_option maxRecDepth 100000 in
theorem lifted (os : Os) (started : os.Started) (H : Type) (enc : TypeId × Value → H) :
    ReturnsInHanded {} Yba.checked os 4 .any (Rows.lawS0612ASiblingSpec.pre6 enc Yba.prog Yba.f4 Rows.lawS0612ASiblingRow.domain false) (Rows.lawS0612ASiblingSpec.post enc Yba.prog Yba.f4 false true false false) := by
  refine returnsInHanded_of_change (C := Yba.checked) own started (by kernel_rfl) Yba.func4
    (ChangeSpec.witness6 (enc := enc) (C := Yba.checked) false ⟨#[], #[.bool false, .int .u8 0, .int .i64 0, .bool false, .bool false], []⟩ 8 (by kernel_rfl) (by kernel_rfl) (by kernel_rfl) (by kernel_rfl)) ?_
  intro W base args ds gs before hval0 hW hcnd _
  have hval : ∀ (j : Nat) t v, Yba.f4.params[j]? = some t → args[j]? = some v → Value.okWide Yba.prog W .any base t v := hval0
  have hW' := hW
  obtain ⟨p, q, hA0, hV, rfl, hfz, hnd⟩ := hW
  have hA : DataW.TrodAll enc Yba.prog W 0 (fun _ => true) true Yba.f4.params.toList args.toList ds p := hA0
  rw [Yba.params4] at hA hval
  obtain ⟨v0, vs0, d0, ds0, p0, q0, hargs, rfl, rfl, h0, r0⟩ := trodAll_cons hA
  obtain ⟨v1, vs1, d1, ds1, p1, q1, rfl, rfl, rfl, h1, r1⟩ := trodAll_cons r0
  obtain ⟨v2, vs2, d2, ds2, p2, q2, rfl, rfl, rfl, h2, r2⟩ := trodAll_cons r1
  obtain ⟨v3, vs3, d3, ds3, p3, q3, rfl, rfl, rfl, h3, r3⟩ := trodAll_cons r2
  obtain ⟨v4, vs4, d4, ds4, p4, q4, rfl, rfl, rfl, h4, r4⟩ := trodAll_cons r3
  obtain ⟨rfl, rfl, rfl⟩ := trodAll_nil r4
  obtain rfl : args = #[v0, v1, v2, v3, v4] := by cases args; simp_all
  obtain ⟨rfl, rfl⟩ := trodVars_none hV
  obtain ⟨a0, rfl, rfl, rfl⟩ := open_bool Yba.underlying4 (hval 0 4 v0 rfl rfl) h0
  obtain ⟨a1, rfl, rfl, rfl, w1⟩ := open_int Yba.underlying5 (hval 1 5 v1 rfl rfl) h1
  obtain ⟨a2, rfl, rfl, rfl, w2⟩ := open_int Yba.underlying3 (hval 2 3 v2 rfl rfl) h2
  obtain ⟨a3, rfl, rfl, rfl⟩ := open_bool Yba.underlying4 (hval 3 4 v3 rfl rfl) h3
  obtain ⟨a4, rfl, rfl, rfl⟩ := open_bool Yba.underlying4 (hval 4 4 v4 rfl rfl) h4
  clear hA0 hval0
  simp only [List.append_nil] at hW'
  refine (walk a0 a1 a2 a3 a4 w1 w2 W).mono fun e W' ⟨he, hg⟩ => ?_
  subst he
  exact ⟨_, rfl, post_of_same (pa := []) (pv := []) hW' (fun _ _ _ => (trodAll_cons_mk (shut_bool Yba.underlying4 _) trodAll_mk0)) (fun sp _ => (trodAll_cons_mk (shut_bool Yba.underlying4 _) (trodAll_cons_mk (shut_int Yba.underlying5 w1) (trodAll_cons_mk (shut_int Yba.underlying3 w2) (trodAll_cons_mk (shut_bool Yba.underlying4 _) (trodAll_cons_mk (shut_bool Yba.underlying4 _) trodAll_mk0)))))) (fun _ _ => rfl) rfl
    (hg.frame _) hg.2.1 (ok_one (by kernel_rfl) rfl (okWide_bool_mk Yba.underlying4 _))⟩

theorem over : Rows.lawS0612ASiblingRow.holds Yba.pinned (OpenSpec.ofChange Rows.lawS0612ASiblingSpec) :=
  OpenClaim.holds_of_wide 4 Yba.f4 rfl rfl rfl rfl rfl rfl rfl ⟨rfl, rfl, rfl, rfl, rfl⟩ rfl rfl rfl rfl rfl (by kernel_rfl) Yba.func4 (by kernel_rfl)
    (of_decide_eq_true (by kernel_rfl)) (by unfold Func.isWrapper; first | (rw [if_pos (by decide +kernel)]; kernel_rfl) | (rw [if_neg (by decide +kernel)]; exact ⟨rfl, rfl⟩))
    (fun os started H enc _ => lifted os started H enc)

/-- ████ THE STATEMENT ████ -/
theorem proved : Rows.LawS0612ASiblingSaid :=
  over
end Go.Proofs.Ybulklqo.lawS0612ASibling
namespace Go.Proofs.Ybulklqo
theorem lawS0612ASiblingProved : Rows.LawS0612ASiblingSaid := lawS0612ASibling.proved
end Go.Proofs.Ybulklqo
