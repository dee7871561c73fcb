/-
  Shared by the laws of lock's requests: two pointers held against each other; 'zzs0612amode'.
-/
import Derived.Test.YbulklqoRows
import Derived.WalkKit
import Derived.ProofKit
import Derived.OpenShut
import Derived.ShutString
import Derived.WalkSpells
import Derived.WalkLawsBesides
import Derived.Lib.Builder
namespace Go.Proofs.Ybulklqo
open Go.ChangeShapes Go.WideShapes Go.ChangeAt Go.RowKit
set_option linter.unusedVariables false

theorem info29 : ∃ j, Yba.prog.info? 29 = some j ∧ j.size ≠ 0 := by
  have h : (Yba.prog.info? 29).any (fun j => j.size != 0) = true := by kernel_rfl
  cases hj : Yba.prog.info? 29 with
  | none => rw [hj] at h; cases h
  | some j => rw [hj] at h; exact ⟨j, rfl, by simpa using h⟩
theorem neq_same (w : World) (a : Addr) : (binOp .neq 22 (.pointer (some a)) (.pointer (some a))).run Yba.prog w = .ok (.bool false) w := by
  obtain ⟨j, hj, _⟩ := info29
  exact Lib.run_neq_ptr_same w a Yba.underlying22 hj
theorem eql_same (w : World) (a : Addr) : (binOp .eql 22 (.pointer (some a)) (.pointer (some a))).run Yba.prog w = .ok (.bool true) w := by
  obtain ⟨j, hj, _⟩ := info29
  exact run_eql_ptr_same w a Yba.underlying22 hj

/-- 'zzs0612amode': some mode. -/
theorem mode_any (a1 a2 : Int) (w1 : (Lit.int .u8 a1).wf = true) (w : World) :
    Calls Yba.prog 9 #[.int .u8 a1, .int .i64 a2] w fun e w' => ∃ m, e = .returned (.int .i64 m) ∧ w' = w := by
  obtain ⟨l1, u1⟩ := bounds_u8 w1
  go_enter Yba.func9, Yba.ntmps9
  go_wp2
  all_goals
    go_ret
    exact ⟨_, rfl, rfl⟩

end Go.Proofs.Ybulklqo
