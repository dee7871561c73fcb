/-
  '(*Node).highestSlot' (function 5), walked: over a nil map and over a map whose elements are not looked at. And a law for a composite literal of a wide struct.
-/
import Derived.Test.YbulklleRows
import Derived.WalkKit
import Derived.ProofKit
import Derived.OpenShut
import Derived.ShutString
import Derived.WalkLawsBesides
import Derived.Maps.RangeWalk
import Derived.Deep.QuietTactic
import Derived.BigQuiet
import Derived.Laws.Tables
namespace Go.Proofs.Ybulklle
open Go.ChangeShapes Go.WideShapes Go.ChangeAt Go.RowKit Go.Maps
set_option linter.unusedVariables false

/-- A composite literal, its cells under a name of our own. -/
theorem wpList_build_at {P : Program} {w : World} {ops : Array Oper} {rest : List Oper} {o : Oper} {a : Act} {Q : Exit → Act → World → Prop}
    (hg : o.guard = none) (t : TypeId) (parts : Array (Nat × Operand)) (hop : o.op = Op.build t parts) (cells : Array Value)
    (hc : P.built t (parts.map fun (i, x) => (i, a.eval x)).toList = some cells)
    (hK : wpList P ops Q rest (a.put o.dst (.agg cells)) w) : wpList P ops Q (o :: rest) a w := by
  refine wpList_plain hg fun K' hK' => ?_
  unfold Oper.wp execOp
  simp only [hop, Sem.run_bind, run_build w t _ cells hc, Result.andThen_ok]
  exact hK' _ _ hK

/-- The 108 cells of 'Node{top: t, applied: p, durable: Durable{Fence: f, Accepted: m}}'. -/
def nodeOf (t p f : Int) (m : Option Nat) : Array Value :=
  #[.int .u32 0, .int .u32 0, .slice none 0 0, .slice none 0 0, .slice none 0 0, .slice none 0 0, .int .i64 0, .int .i64 0, .bool false, .int .u32 0, .int .u64 0, .int .u8 0, .pointer none, .int .u64 0, .int .u32 0, .map m, .int .u64 0, .int .u64 0, .map none, .int .u64 0, .int .u64 0, .int .u64 0, .slice none 0 0, .int .u64 f, .int .u64 0, .slice none 0 0, .slice none 0 0, .string ⟨#[]⟩, .bool false, .int .u64 0, .int .u32 0, .int .u64 0, .int .u64 0, .int .i64 0, .int .u64 0, .int .u64 0, .int .u32 0, .int .u64 0, .int .u64 0, .int .u64 0, .int .u64 0, .slice none 0 0, .slice none 0 0, .slice none 0 0, .slice none 0 0, .string ⟨#[]⟩, .bool false, .slice none 0 0, .slice none 0 0, .slice none 0 0, .slice none 0 0, .int .u64 0, .int .u64 0, .int .u32 0, .bool false, .slice none 0 0, .int .i64 0, .bool false, .map none, .int .u64 t, .int .u64 p, .int .u64 0, .slice none 0 0, .int .i64 0, .int .i64 0, .int .u64 0, .int .u32 0, .int .u64 0, .int .u64 0, .int .u32 0, .int .u64 0, .int .u32 0, .int .u64 0, .int .u32 0, .bool false, .int .u64 0, .map none, .map none, .slice none 0 0, .int .i64 0, .int .u64 0, .map none, .int .u64 0, .slice none 0 0, .map none, .int .i64 0, .int .i64 0, .bool false, .int .i64 0, .int .i64 0, .bool false, .int .i64 0, .int .u64 0, .int .u64 0, .int .u64 0, .int .u32 0, .slice none 0 0, .pointer none, .slice none 0 0, .int .u64 0, .int .u64 0, .int .u64 0, .int .u32 0, .map none, .int .u64 0, .int .i64 0, .int .u64 0, .int .u32 0]

/-- The highest of top, applied and, where the fence is not nought, fence - 1. -/
def hi0 (t p f : Int) : Int := if 0 < f then max (max t p) (f - 1) else max t p
theorem ret_int {k : IntKind} {a b : Int} (h : a = b) : Ending.returned (.int k a) = .returned (.int k b) := by rw [h]

set_option maxRecDepth 100000 in
set_option maxHeartbeats 400000 in
theorem high_nil (b : Nat) (t p f : Int) (w : World) (ht : 0 ≤ t) (ht' : t < 18446744073709551616) (hp : 0 ≤ p) (hp' : p < 18446744073709551616) (hf : 0 ≤ f) (hf' : f < 18446744073709551616)
  (c59 : w.cell? ⟨b, 59, none⟩ = some (.int .u64 t))
  (c60 : w.cell? ⟨b, 60, none⟩ = some (.int .u64 p))
  (c23 : w.cell? ⟨b, 23, none⟩ = some (.int .u64 f))
  (c15 : w.cell? ⟨b, 15, none⟩ = some (.map none)) :
    Calls Yba.prog 5 #[.pointer (some ⟨b, 0, none⟩)] w fun e w' => e = .returned (.int .u64 (hi0 t p f)) ∧ Below w.heap.size w w' := by
  have hrg := fun W => run_range_nilMap (P := Yba.prog) W 24 22 33 Yba.underlying24
  have hnx : ∀ (nq : Nat) ty, (Instr.next (.pointer (some ⟨w.heap.size, 0, none⟩)) false ty).run Yba.prog ((w.drewN nq).alloc (.mapIter none 0 #[] 0)) = .ok (.tuple #[.bool false]) ((w.drewN nq).alloc (.mapIter none 0 #[] 0)) := fun nq ty => run_next_nilMap (w.drewN nq) ty 0 0 #[]
  have hc : (t < p ∧ 0 < f ∧ p < f - 1) ∨ (t < p ∧ 0 < f ∧ ¬ p < f - 1) ∨ (t < p ∧ ¬ 0 < f ∧ f ≤ 0) ∨ (¬ t < p ∧ 0 < f ∧ t < f - 1) ∨ (¬ t < p ∧ 0 < f ∧ ¬ t < f - 1) ∨ (¬ t < p ∧ ¬ 0 < f ∧ f ≤ 0) := by omega
  rcases hc with ⟨h1, h2, h3⟩ | ⟨h1, h2, h3⟩ | ⟨h1, h2, h3⟩ | ⟨h1, h2, h3⟩ | ⟨h1, h2, h3⟩ | ⟨h1, h2, h3⟩
  all_goals
    go_enter Yba.func5, Yba.ntmps5
    go_wp2_with fail
    go_quiet (fail)
    go_wp2
    refine wp_loop_rounds 1 ?_
    rw [rounds_succ]
    go_wp2
    go_ret
    exact ⟨ret_int (by unfold hi0; split <;> omega), (below_drewN (Below.refl _ _) _).alloc (Nat.le_refl _) _⟩

/-- elements are not looked at -/
def anyElem (_ : Value) : Option (DataW Unit × List MemPlace) := some (.lit (.bool true), [])
theorem law22 : Keyed Yba.prog 22 := int_keyed Yba.underlying22

/-- what is known of the answer -/
def Hi (D : DataW Unit) (h0 r : Int) : Prop := h0 ≤ r ∧ (∀ x, Maps.has D (.int .u64 x) = true → x ≤ r) ∧ (r = h0 ∨ Maps.has D (.int .u64 r) = true)

set_option maxRecDepth 100000 in
set_option maxHeartbeats 400000 in
theorem high_map (b bm n : Nat) (t p f : Int) (D : DataW Unit) (w : World) (ht : 0 ≤ t) (ht' : t < 18446744073709551616) (hp : 0 ≤ p) (hp' : p < 18446744073709551616) (hf : 0 ≤ f) (hf' : f < 18446744073709551616)
  (hown : w.ownsMap Yba.prog 22 anyElem bm n D)
  (c59 : w.cell? ⟨b, 59, none⟩ = some (.int .u64 t))
  (c60 : w.cell? ⟨b, 60, none⟩ = some (.int .u64 p))
  (c23 : w.cell? ⟨b, 23, none⟩ = some (.int .u64 f))
  (c15 : w.cell? ⟨b, 15, none⟩ = some (.map (some bm))) :
    Calls Yba.prog 5 #[.pointer (some ⟨b, 0, none⟩)] w fun e w' => ∃ r, e = .returned (.int .u64 r) ∧ Hi D (hi0 t p f) r ∧ Below w.heap.size w w' := by
  have hc : (t < p ∧ 0 < f ∧ p < f - 1) ∨ (t < p ∧ 0 < f ∧ ¬ p < f - 1) ∨ (t < p ∧ ¬ 0 < f ∧ f ≤ 0) ∨ (¬ t < p ∧ 0 < f ∧ t < f - 1) ∨ (¬ t < p ∧ 0 < f ∧ ¬ t < f - 1) ∨ (¬ t < p ∧ ¬ 0 < f ∧ f ≤ 0) := by omega
  rcases hc with ⟨h1, h2, h3⟩ | ⟨h1, h2, h3⟩ | ⟨h1, h2, h3⟩ | ⟨h1, h2, h3⟩ | ⟨h1, h2, h3⟩ | ⟨h1, h2, h3⟩
  all_goals
    go_enter Yba.func5, Yba.ntmps5
    go_wp2_with fail
    go_quiet (fail)
    go_wp2_with (first
      | (at_range; refine wpList_range_own _ rfl _ 24 rfl 22 33 law22 Yba.underlying24 _ bm n _ rfl (by exact hown) ?_; intro w0 hrg0 hg0 hs0)
      | go_in)
    go_frame
    have e1 : (w.drewN nq).heap.size = w.heap.size := rfl
    have hg1 : w.grownBy w0 none := ⟨hg0.os, hg0.tape, hg0.output, hg0.size, hg0.block⟩
    rw [e1] at hrg0 hs0 ⊢
    clear hg0
    go_loopw [3] (fun h wr => ∃ (left : Lit → Bool) (cnt : Nat) (r : Int), h = .int .u64 r ∧ 0 ≤ r ∧ r < 18446744073709551616 ∧ wr.ranges Yba.prog 22 anyElem bm w.heap.size n D left cnt ∧ hi0 t p f ≤ r ∧
        (∀ x, Maps.has D (.int .u64 x) = true → left (.int .u64 x) = true ∨ x ≤ r) ∧ (r = hi0 t p f ∨ Maps.has D (.int .u64 r) = true) ∧ (∀ kl, left kl = true → Maps.has D kl = true) ∧ Below w.heap.size w wr)
      (fun _ wr => wr.rangeLeft bm w.heap.size)
    case atStart =>
      exact ⟨_, _, _, rfl, by omega, by omega, hrg0, by unfold hi0; split <;> omega, fun x hx => .inl hx, .inl (by unfold hi0; split <;> omega), fun _ h => h, (Below.refl _ _).grown hg1 (Nat.le_refl _) (fun j hj => by cases hj)⟩
    case round =>
      obtain ⟨left, cnt, r, rfl, hr0, hr1, hrg, hhi, hall, hor, hlh, hnx⟩ := hrel
      have H1 : Hid (hi0 t p f ≤ r ∧ (∀ x, Maps.has D (.int .u64 x) = true → left (.int .u64 x) = true ∨ x ≤ r) ∧ (r = hi0 t p f ∨ Maps.has D (.int .u64 r) = true) ∧ (∀ kl, left kl = true → Maps.has D kl = true)) := ⟨hhi, hall, hor, hlh⟩
      clear hhi hall hor hlh
      go_wp2_with (first
        | (at_next; refine wpList_next_ranges _ rfl _ rfl 22 law22 anyElem (Value.int .u64) (fun v : Value => v) (fun key kl hkey => by obtain ⟨x, rfl, _⟩ := Maps.keyOf_int_inv Yba.underlying22 hkey; exact ⟨x, rfl⟩) (fun v y hv => ⟨v, rfl⟩) bm w.heap.size n _ _ _ rfl hrg ?_ ?_)
        | go_in)
      · intro hc0 hl0
        go_wp2
        go_ret
        obtain ⟨hhi, hall, hor, hlh⟩ := H1.out
        exact ⟨r, rfl, ⟨hhi, fun x hx => by rcases hall x hx with h | h; (rw [hl0] at h; cases h); exact h, hor⟩, hnx⟩
      · intro x c kl y yp w1 cnt1 hkx hlx hrv hat hrg1 hlt hgr hs1 hen
        obtain ⟨x', ex, rfl, hwx⟩ := Maps.keyOf_int_inv Yba.underlying22 hkx
        cases ex
        obtain ⟨hx0, hx1⟩ := bounds_u64 hwx
        obtain ⟨hhi, hall, hor, hlh⟩ := H1.out
        have hxD := hlh _ hlx
        have hB1 := hnx.grown hgr hnx.size (fun j hj => by cases hj; exact Nat.le_refl _)
        have H2 : Hid (∀ r', (r' = x ∧ r < x) ∨ (r' = r ∧ ¬ r < x) → hi0 t p f ≤ r' ∧ (∀ z, Maps.has D (.int .u64 z) = true → (left (.int .u64 z) && !(Lit.int .u64 z).sameKey (.int .u64 x)) = true ∨ z ≤ r') ∧ (r' = hi0 t p f ∨ Maps.has D (.int .u64 r') = true) ∧ (∀ kl, (left kl && !kl.sameKey (.int .u64 x)) = true → Maps.has D kl = true)) := by
          intro r' hr'
          refine ⟨by omega, fun z hz => ?_, ?_, fun kl hkl => hlh kl (by simp at hkl; exact hkl.1)⟩
          · by_cases hzx : z = x
            · right; omega
            · rcases hall z hz with h | h
              · left
                rw [h, sameKey_ne (by simpa using hzx)]
                rfl
              · right; omega
          · rcases hr' with ⟨rfl, _⟩ | ⟨rfl, _⟩
            · exact .inr hxD
            · exact hor
        clear hhi hall hor hlh H1 hxD hlx hrv hat hkx hwx
        obtain ⟨r', hr'⟩ : ∃ r', (r' = x ∧ r < x) ∨ (r' = r ∧ ¬ r < x) := by
          by_cases hlt' : r < x
          · exact ⟨x, .inl ⟨rfl, hlt'⟩⟩
          · exact ⟨r, .inr ⟨rfl, hlt'⟩⟩
        obtain ⟨q1, q2, q3, q4⟩ := H2.out r' hr'
        clear H2
        have H3 : Hid (hi0 t p f ≤ r' ∧ (∀ z, Maps.has D (.int .u64 z) = true → (left (.int .u64 z) && !(Lit.int .u64 z).sameKey (.int .u64 x)) = true ∨ z ≤ r') ∧ (r' = hi0 t p f ∨ Maps.has D (.int .u64 r') = true) ∧ (∀ kl, (left kl && !kl.sameKey (.int .u64 x)) = true → Maps.has D kl = true)) := ⟨q1, q2, q3, q4⟩
        clear q1 q2 q3 q4
        rcases hr' with ⟨rfl, hlt'⟩ | ⟨rfl, hlt'⟩
        all_goals
          go_wp2
          go_roundw
          case rel => exact ⟨_, cnt1, _, rfl, by omega, by omega, hrg1, H3.out.1, H3.out.2.1, H3.out.2.2.1, H3.out.2.2.2, hB1⟩
          case measure => rw [hrg1.left_eq, hrg.left_eq]; exact hlt
end Go.Proofs.Ybulklle
