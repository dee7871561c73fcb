/-
  THE PROOF OF 'Rows.LawS0602CExactSaid': the given shell, its hole filled.
-/
import Derived.Test.YbulklleRows
import Derived.WalkKit
import Derived.ProofKit
import Derived.OpenShut
import Derived.ShutString
import Derived.ChangeOld
import Derived.Below
import Derived.Test.YbulklleHigh
import Derived.WalkSpells
namespace Go.Proofs.Ybulklle.lawS0602CExact
open Go.ChangeShapes Go.WideShapes Go.ChangeAt Go.RowKit Go.Maps
open Go.ChangeMaps (open_string shut_string)
set_option linter.unusedVariables false

theorem own : ownKnob Yba.prog.godebug = none := by kernel_rfl
theorem laidOut : laidOutB Yba.prog = true := by kernel_rfl

/-- WHAT THE WALK IS TOLD OF A SLICE OF INTEGERS THAT CAME IN: it is nil; or it leads to a row of 'cap' cells, the numbers 'zs' (the first 'len' are its elements, the rest its spare room), each fitting its kind. -/
def IsRow (k : IntKind) (w : World) (a : Option Addr) (len cap : Nat) (zs : List Int) : Prop :=
  (a = none ∧ len = 0 ∧ cap = 0 ∧ zs = []) ∨
  ∃ x, a = some x ∧ len ≤ cap ∧ cap ≤ maxLen ∧ zs.length = cap ∧ (∀ i, i < zs.length → w.cell? (x.add i) = some (.int k (zs.getD i 0))) ∧ ∀ n ∈ zs, (Lit.int k n).wf = true

/-! ### STEP 1: THE WALK -/
theorem make_some (w : World) (n : Nat) : (Instr.makeMap 24 (some (.int .i64 (n : Int)))).run Yba.prog w = .ok (.map (some w.heap.size)) (w.alloc (.map #[] 0)) := by
  simp [Instr.makeMap, go_sem]

/-- The map's keys are just the numbers of the list. -/
def IsIn (D : DataW Unit) (l : List Int) : Prop := IsMap D ∧ ∀ x, Maps.has D (.int .u64 x) = true ↔ x ∈ l
theorem IsIn.put {D : DataW Unit} {l : List Int} (h : IsIn D l) (x : Int) (d : DataW Unit) : IsIn (D.put (.int .u64 x) d) (l ++ [x]) := by
  refine ⟨h.1.put _ _, fun z => ?_⟩
  by_cases hz : z = x
  · subst hz
    simp [has_put_same h.1 (k := .int .u64 z) trivial]
  · rw [has_put_other (by simpa using hz), h.2 z]
    simp [hz]
theorem isIn_start : IsIn (.map []) [] := ⟨isMap_empty, fun x => by simp [Maps.has]⟩

/-- The greatest of h0 and the list's numbers. -/
def Wt (l : List Int) (h0 r : Int) : Prop := h0 ≤ r ∧ (∀ x, x ∈ l → x ≤ r) ∧ (r = h0 ∨ r ∈ l)
theorem wt_start (h0 : Int) : Wt [] h0 h0 := ⟨Int.le_refl _, fun x h => by simp at h, .inl rfl⟩
theorem Wt.more {l : List Int} {h0 r x : Int} (h : Wt l h0 r) (hx : r < x) : Wt (l ++ [x]) h0 x := by
  refine ⟨by have := h.1; omega, fun z hz => ?_, .inr (by simp)⟩
  rcases List.mem_append.1 hz with h1 | h1
  · have := h.2.1 z h1; omega
  · simp at h1; omega
theorem Wt.less {l : List Int} {h0 r x : Int} (h : Wt l h0 r) (hx : ¬ r < x) : Wt (l ++ [x]) h0 r := by
  refine ⟨h.1, fun z hz => ?_, ?_⟩
  · rcases List.mem_append.1 hz with h1 | h1
    · exact h.2.1 z h1
    · simp at h1; omega
  · rcases h.2.2 with h1 | h1
    · exact .inl h1
    · exact .inr (List.mem_append.2 (.inl h1))
theorem one {D : DataW Unit} {l : List Int} {h0 r r' : Int} (hD : IsIn D l) (h : Hi D h0 r) (k : Wt l h0 r') : r = r' := by
  have a1 : r ≤ r' := by
    rcases h.2.2 with e | e
    · have := k.1; omega
    · exact k.2.1 r ((hD.2 r).1 e)
  have a2 : r' ≤ r := by
    rcases k.2.2 with e | e
    · have := h.1; omega
    · exact h.2.1 r' ((hD.2 r').2 e)
  omega
theorem take_snoc (zs : List Int) (k : Nat) (h : k < zs.length) : zs.take (k + 1) = zs.take k ++ [zs.getD k 0] := by
  rw [List.take_succ_eq_append_getElem h]
  simp [List.getElem?_eq_getElem h]
theorem getD_mem (zs : List Int) (k : Nat) (h : k < zs.length) : zs.getD k 0 ∈ zs := by
  simp [List.getD, List.getElem?_eq_getElem h]
theorem cell_lt {w : World} {b o : Nat} {v : Value} (h : w.cell? ⟨b, o, none⟩ = some v) : b < w.heap.size := by
  by_cases hb : b < w.heap.size
  · exact hb
  · simp [World.cell?, Array.getElem?_eq_none (Nat.le_of_not_lt hb)] at h

set_option maxRecDepth 100000 in
set_option maxHeartbeats 1000000 in
theorem core (a0 a1 a2 : Int) (b off len cap : Nat) (zs : List Int) (w : World) (l0 : 0 ≤ a0) (u0 : a0 ≤ 18446744073709551615) (l1 : 0 ≤ a1) (u1 : a1 ≤ 18446744073709551615) (l2 : 0 ≤ a2) (u2 : a2 ≤ 18446744073709551615)
    (hl : len ≤ zs.length) (h1024 : len ≤ 1024) (hcell : ∀ k, k < len → w.cell? ⟨b, off + k, none⟩ = some (.int .u64 (zs.getD k 0))) (hwz : ∀ n ∈ zs, (Lit.int .u64 n).wf = true) (hbl : b < w.heap.size) :
    Calls Yba.prog 3 #[.int .u64 a0, .int .u64 a1, .int .u64 a2, .slice (some ⟨b, off, none⟩) len cap] w fun e w' => e = .returned (.bool true) ∧ Below w.heap.size w w' := by
  have hmk := make_some
  have h1024' : ¬ (1024 : Int) < (len : Int) := by omega
  have hzb : ∀ k, k < len → 0 ≤ zs.getD k 0 ∧ zs.getD k 0 ≤ 18446744073709551615 := fun k hk => bounds_u64 (hwz _ (getD_mem zs k (by omega)))
  have HZ : Hid (∀ n ∈ zs, (Lit.int .u64 n).wf = true) := hwz
  have HZB : Hid (∀ k, k < len → 0 ≤ zs.getD k 0 ∧ zs.getD k 0 ≤ 18446744073709551615) := hzb
  have HC : Hid (∀ k, k < len → w.cell? ⟨b, off + k, none⟩ = some (.int .u64 (zs.getD k 0))) := hcell
  clear hwz hzb hcell
  go_enter Yba.func3, Yba.ntmps3
  go_wp2
  go_loopw [24] (fun i wr => ∃ (k : Nat) (D : DataW Unit), k ≤ len ∧ i = .int .i64 k ∧ wr.ownsMap Yba.prog 22 anyElem w.heap.size k D ∧ IsIn D (zs.take k) ∧ Below w.heap.size w wr) (fun i _ => len - (intOf i).toNat)
  case atStart => exact ⟨0, .map [], Nat.zero_le _, rfl, World.ownsMap_made _ _ _ _, isIn_start, (Below.refl _ _).alloc (Nat.le_refl _) _⟩
  case round =>
    obtain ⟨k, D, hk, rfl, hown, hD, hnx⟩ := hrel
    by_cases hlt : k < len
    · have hc : wr.cell? ⟨b, off + k, none⟩ = some (.int .u64 (zs.getD k 0)) := (hnx.cell (p := ⟨b, off + k, none⟩) hbl).trans (HC.out k hlt)
      have hwk : (Lit.int .u64 (zs.getD k 0)).wf = true := HZ.out _ (getD_mem zs k (by omega))
      have hD' := hD.put (zs.getD k 0) (.lit (.bool true))
      rw [← take_snoc zs k (by omega)] at hD'
      generalize zs.getD k 0 = z at *
      have HD : Hid (IsIn (D.put (.int .u64 z) (.lit (.bool true))) (zs.take (k + 1))) := hD'
      clear hD' hD
      go_wp2_with (first | (at_mapUpdate; refine wpList_mapUpdate_own _ rfl _ _ _ 24 rfl 22 33 law22 Yba.underlying24 _ w.heap.size k _ rfl hown (by unfold maxLen; omega) _ _ _ rfl rfl (keyOf_int_mk Yba.underlying22 hwk) _ [] rfl ?_; intro w1 hown1 hgrow1) | go_in)
      go_roundw
      case rel => exact ⟨k + 1, _, by omega, by go_num, hown1, HD.out, hnx.grown hgrow1 hnx.size (fun j hj => by cases hj; exact Nat.le_refl _)⟩
      case measure => simp [intOf]; omega
    · obtain rfl : k = len := by omega
      have hs : w.heap.size < wr.heap.size := hown.lt
      have hcell2 : ∀ j, (wr.alloc (Obj.cells (nodeOf a0 a1 a2 (some w.heap.size)) 74)).cell? ⟨wr.heap.size, j, none⟩ = (nodeOf a0 a1 a2 (some w.heap.size))[j]? := fun j => by
        simp only [World.cell?, (MapKept.heap_alloc wr _).1]
        rfl
      have c59 := hcell2 59
      have c60 := hcell2 60
      have c23 := hcell2 23
      have c15 := hcell2 15
      rw [show (nodeOf a0 a1 a2 (some w.heap.size))[59]? = some (.int .u64 a0) from rfl] at c59
      rw [show (nodeOf a0 a1 a2 (some w.heap.size))[60]? = some (.int .u64 a1) from rfl] at c60
      rw [show (nodeOf a0 a1 a2 (some w.heap.size))[23]? = some (.int .u64 a2) from rfl] at c23
      rw [show (nodeOf a0 a1 a2 (some w.heap.size))[15]? = some (.map (some w.heap.size)) from rfl] at c15
      clear hcell2
      have hown2 := hown.alloc (Obj.cells (nodeOf a0 a1 a2 (some w.heap.size)) 74)
      have HH : Hid (wr.ownsMap Yba.prog 22 anyElem w.heap.size k D ∧ IsIn D (zs.take k)) := ⟨hown, hD⟩
      clear hown hD
      have hc : (a0 < a1 ∧ 0 < a2 ∧ a1 < a2 - 1) ∨ (a0 < a1 ∧ 0 < a2 ∧ ¬ a1 < a2 - 1) ∨ (a0 < a1 ∧ ¬ 0 < a2 ∧ a2 ≤ 0) ∨ (¬ a0 < a1 ∧ 0 < a2 ∧ a0 < a2 - 1) ∨ (¬ a0 < a1 ∧ 0 < a2 ∧ ¬ a0 < a2 - 1) ∨ (¬ a0 < a1 ∧ ¬ 0 < a2 ∧ a2 ≤ 0) := by omega
      rcases hc with ⟨h1, h2, h3⟩ | ⟨h1, h2, h3⟩ | ⟨h1, h2, h3⟩ | ⟨h1, h2, h3⟩ | ⟨h1, h2, h3⟩ | ⟨h1, h2, h3⟩
      all_goals
        go_wp2_with (refine wpList_build_at rfl 74 _ rfl (nodeOf a0 a1 a2 (some w.heap.size)) (by kernel_rfl) ?_)
        go_loop [13, 57] (fun g i => ∃ (j : Nat) (r : Int), j ≤ k ∧ i = .int .i64 j ∧ g = .int .u64 r ∧ 0 ≤ r ∧ r ≤ 18446744073709551615 ∧ Wt (zs.take j) (hi0 a0 a1 a2) r) (fun _ i => k - (intOf i).toNat)
        case atStart =>
          refine ⟨0, _, Nat.zero_le _, rfl, rfl, by omega, by omega, ?_⟩
          have e : ∀ r, r = hi0 a0 a1 a2 → Wt (zs.take 0) (hi0 a0 a1 a2) r := fun r h => by subst h; simpa using wt_start (hi0 a0 a1 a2)
          exact e _ (by unfold hi0; split <;> omega)
        case round =>
          obtain ⟨j, r, hj, rfl, rfl, hr0, hr1, hW⟩ := hrel
          by_cases hlj : j < k
          · have hc : (wr.alloc (Obj.cells (nodeOf a0 a1 a2 (some w.heap.size)) 74)).cell? ⟨b, off + j, none⟩ = some (.int .u64 (zs.getD j 0)) := ((hnx.alloc (by omega) _).cell (p := ⟨b, off + j, none⟩) hbl).trans (HC.out j hlj)
            obtain ⟨hz0, hz1⟩ := HZB.out j hlj
            have hts := take_snoc zs j (by omega)
            generalize zs.getD j 0 = z at *
            by_cases hrz : r < z
            · have HW : Hid (Wt (zs.take (j + 1)) (hi0 a0 a1 a2) z) := by rw [hts]; exact hW.more hrz
              clear hW hts
              go_wp2
              go_round
              case rel => exact ⟨j + 1, _, by omega, by go_num, rfl, by omega, by omega, HW.out⟩
              case measure => simp [intOf]; omega
            · have HW : Hid (Wt (zs.take (j + 1)) (hi0 a0 a1 a2) r) := by rw [hts]; exact hW.less hrz
              clear hW hts
              go_wp2
              go_round
              case rel => exact ⟨j + 1, _, by omega, by go_num, rfl, by omega, by omega, HW.out⟩
              case measure => simp [intOf]; omega
          · obtain rfl : j = k := by omega
            have HW : Hid (Wt (zs.take j) (hi0 a0 a1 a2) r) := hW
            clear hW
            go_wp2_with fail
            refine (high_map wr.heap.size w.heap.size j a0 a1 a2 D _ l0 (by omega) l1 (by omega) l2 (by omega) hown2 c59 c60 c23 c15).mono ?_
            rintro e w1 ⟨r', rfl, hHi, hb1⟩
            obtain rfl := one HH.out.2 hHi HW.out
            go_wp2
            go_ret
            exact ⟨by simp, (hnx.alloc (by omega) _).trans (hb1.mono (by simp; omega))⟩

set_option maxRecDepth 100000 in
set_option maxHeartbeats 1000000 in
theorem zero (a0 a1 a2 : Int) (a3 : Option Addr) (cap : Nat) (w : World) (l0 : 0 ≤ a0) (u0 : a0 ≤ 18446744073709551615) (l1 : 0 ≤ a1) (u1 : a1 ≤ 18446744073709551615) (l2 : 0 ≤ a2) (u2 : a2 ≤ 18446744073709551615) :
    Calls Yba.prog 3 #[.int .u64 a0, .int .u64 a1, .int .u64 a2, .slice a3 0 cap] w fun e w' => e = .returned (.bool true) ∧ Below w.heap.size w w' := by
  have hmk : ∀ W : World, (Instr.makeMap 24 (some (.int .i64 0))).run Yba.prog W = .ok (.map (some W.heap.size)) (W.alloc (.map #[] 0)) := fun W => make_some W 0
  have hs : (w.alloc (.map #[] 0)).heap.size = w.heap.size + 1 := by simp
  have hcell2 : ∀ j, ((w.alloc (.map #[] 0)).alloc (Obj.cells (nodeOf a0 a1 a2 (some w.heap.size)) 74)).cell? ⟨w.heap.size + 1, j, none⟩ = (nodeOf a0 a1 a2 (some w.heap.size))[j]? := fun j => by
    rw [← hs]
    simp only [World.cell?, (MapKept.heap_alloc (w.alloc (.map #[] 0)) _).1]
    rfl
  have c59 := hcell2 59
  have c60 := hcell2 60
  have c23 := hcell2 23
  have c15 := hcell2 15
  rw [show (nodeOf a0 a1 a2 (some w.heap.size))[59]? = some (.int .u64 a0) from rfl] at c59
  rw [show (nodeOf a0 a1 a2 (some w.heap.size))[60]? = some (.int .u64 a1) from rfl] at c60
  rw [show (nodeOf a0 a1 a2 (some w.heap.size))[23]? = some (.int .u64 a2) from rfl] at c23
  rw [show (nodeOf a0 a1 a2 (some w.heap.size))[15]? = some (.map (some w.heap.size)) from rfl] at c15
  clear hcell2 hs
  have hown2 := (World.ownsMap_made w Yba.prog 22 anyElem).alloc (Obj.cells (nodeOf a0 a1 a2 (some w.heap.size)) 74)
  have hc : (a0 < a1 ∧ 0 < a2 ∧ a1 < a2 - 1) ∨ (a0 < a1 ∧ 0 < a2 ∧ ¬ a1 < a2 - 1) ∨ (a0 < a1 ∧ ¬ 0 < a2 ∧ a2 ≤ 0) ∨ (¬ a0 < a1 ∧ 0 < a2 ∧ a0 < a2 - 1) ∨ (¬ a0 < a1 ∧ 0 < a2 ∧ ¬ a0 < a2 - 1) ∨ (¬ a0 < a1 ∧ ¬ 0 < a2 ∧ a2 ≤ 0) := by omega
  have hH : ∀ r r', r' = hi0 a0 a1 a2 → Hi (.map []) (hi0 a0 a1 a2) r → r = r' := fun r r' e h => by
    refine one isIn_start h ?_
    subst e
    exact wt_start _
  rcases hc with ⟨h1, h2, h3⟩ | ⟨h1, h2, h3⟩ | ⟨h1, h2, h3⟩ | ⟨h1, h2, h3⟩ | ⟨h1, h2, h3⟩ | ⟨h1, h2, h3⟩
  all_goals
    go_enter Yba.func3, Yba.ntmps3
    go_wp2
    refine wp_loop_rounds 1 ?_
    rw [rounds_succ]
    go_wp2_with (refine wpList_build_at rfl 74 _ rfl (nodeOf a0 a1 a2 (some w.heap.size)) (by kernel_rfl) ?_)
    refine wp_loop_rounds 1 ?_
    rw [rounds_succ]
    go_wp2_with fail
    refine (high_map (w.heap.size + 1) w.heap.size 0 a0 a1 a2 (.map []) _ l0 (by omega) l1 (by omega) l2 (by omega) hown2 c59 c60 c23 c15).mono ?_
    rintro e w1 ⟨r', rfl, hHi, hb1⟩
    obtain rfl := hH _ _ rfl hHi
    go_wp2
    go_ret
    exact ⟨by unfold hi0; simp; omega, (((Below.refl _ _).alloc (Nat.le_refl _) _).alloc (by simp) _).trans (hb1.mono (by simp; omega))⟩

theorem long (a0 a1 a2 : Int) (a3 : Option Addr) (len cap : Nat) (w : World) (h : 1024 < len) :
    Calls Yba.prog 3 #[.int .u64 a0, .int .u64 a1, .int .u64 a2, .slice a3 len cap] w fun e w' => e = .returned (.bool true) ∧ Below w.heap.size w w' := by
  have h' : (1024 : Int) < (len : Int) := by omega
  go_enter Yba.func3, Yba.ntmps3
  go_wp2
  go_ret
  exact ⟨rfl, Below.refl _ _⟩

theorem walk (a0 : Int) (a1 : Int) (a2 : Int) (a3 : Option Addr) (len3 cap3 : Nat) (z3 : List Int) (w : World) (w0 : (Lit.int .u64 a0).wf = true) (w1 : (Lit.int .u64 a1).wf = true) (w2 : (Lit.int .u64 a2).wf = true) (w3 : IsRow .u64 w a3 len3 cap3 z3) :
    Calls Yba.prog 3 #[.int .u64 a0, .int .u64 a1, .int .u64 a2, .slice a3 len3 cap3] w fun e w' => e = .returned (.bool true) ∧ Below w.heap.size w w' := by
  obtain ⟨l0, u0⟩ := bounds_u64 w0
  obtain ⟨l1, u1⟩ := bounds_u64 w1
  obtain ⟨l2, u2⟩ := bounds_u64 w2
  by_cases hbig : 1024 < len3
  · exact long a0 a1 a2 a3 len3 cap3 w hbig
  · rcases w3 with ⟨rfl, rfl, rfl, rfl⟩ | ⟨x, rfl, hl, hm, hz, hcell, hwz⟩
    · exact zero a0 a1 a2 none 0 w l0 u0 l1 u1 l2 u2
    · by_cases h0 : len3 = 0
      · subst h0
        exact zero a0 a1 a2 (some x) cap3 w l0 u0 l1 u1 l2 u2
      · obtain ⟨b, off, rfl, hc⟩ := ints_at hcell (by omega)
        exact core a0 a1 a2 b off len3 cap3 z3 w l0 u0 l1 u1 l2 u2 (by omega) (by omega) (fun k hk => hc k (by omega)) hwz (cell_lt (hc 0 (by omega)))

/-! ### THE ROW's STEP: WRITTEN OUT: LEAVE IT -/
set_option maxRecDepth 100000 in
theorem lifted (os : Os) (started : os.Started) (H : Type) (enc : TypeId × Value → H) :
    ReturnsInHanded {} Yba.checked os 3 .any (Rows.lawS0602CExactSpec.pre6 enc Yba.prog Yba.f3 Rows.lawS0602CExactRow.domain false) (Rows.lawS0602CExactSpec.post enc Yba.prog Yba.f3 false true false false) := by
  refine returnsInHanded_of_change (C := Yba.checked) own started (by kernel_rfl) Yba.func3
    (ChangeSpec.witness6 (enc := enc) (C := Yba.checked) false ⟨#[], #[.int .u64 0, .int .u64 0, .int .u64 0, .slice none 0 0], []⟩ 8 (by kernel_rfl) (by kernel_rfl) (by kernel_rfl) (by kernel_rfl)) ?_
  intro W base args ds gs before hval0 hW hcnd _
  have hval : ∀ (j : Nat) t v, Yba.f3.params[j]? = some t → args[j]? = some v → Value.okWide Yba.prog W .any base t v := hval0
  have hW' := hW
  obtain ⟨p, q, hA0, hV, rfl, hfz, hnd⟩ := hW
  have hA : DataW.TrodAll enc Yba.prog W 0 (fun _ => true) true Yba.f3.params.toList args.toList ds p := hA0
  rw [Yba.params3] at hA hval
  obtain ⟨v0, vs0, d0, ds0, p0, q0, hargs, rfl, rfl, h0, r0⟩ := trodAll_cons hA
  obtain ⟨v1, vs1, d1, ds1, p1, q1, rfl, rfl, rfl, h1, r1⟩ := trodAll_cons r0
  obtain ⟨v2, vs2, d2, ds2, p2, q2, rfl, rfl, rfl, h2, r2⟩ := trodAll_cons r1
  obtain ⟨v3, vs3, d3, ds3, p3, q3, rfl, rfl, rfl, h3, r3⟩ := trodAll_cons r2
  obtain ⟨rfl, rfl, rfl⟩ := trodAll_nil r3
  obtain rfl : args = #[v0, v1, v2, v3] := by cases args; simp_all
  obtain ⟨rfl, rfl⟩ := trodVars_none hV
  obtain ⟨a0, rfl, rfl, rfl, w0⟩ := open_int Yba.underlying22 (hval 0 22 v0 rfl rfl) h0
  obtain ⟨a1, rfl, rfl, rfl, w1⟩ := open_int Yba.underlying22 (hval 1 22 v1 rfl rfl) h1
  obtain ⟨a2, rfl, rfl, rfl, w2⟩ := open_int Yba.underlying22 (hval 2 22 v2 rfl rfl) h2
  obtain ⟨a3, len3, cap3, rfl⟩ := okWide_slice Yba.underlying23 (hval 3 23 v3 rfl rfl)
  have k3 := h3
  have lt3 : ∀ x ∈ p3, x.block < W.heap.size := by obtain ⟨m, hm⟩ := k3; exact DataW.trod_lt m _ _ _ hm
  obtain ⟨z3, w3⟩ : ∃ zs, IsRow .u64 W a3 len3 cap3 zs := by
    obtain ⟨fuel, hf⟩ := h3
    rcases open_ints Yba.underlying23 Yba.underlying22 (by kernel_rfl) hf with ⟨hcs, _⟩ | ⟨x, l, c, zs, hcs, _, hl, hm, hz, _, hcell, hwz⟩
    · simp [Value.cells] at hcs
      obtain ⟨rfl, rfl, rfl⟩ := hcs
      exact ⟨[], .inl ⟨rfl, rfl, rfl, rfl⟩⟩
    · simp [Value.cells] at hcs
      obtain ⟨rfl, rfl, rfl⟩ := hcs
      exact ⟨zs, .inr ⟨_, rfl, hl, hm, by simpa using hz, hcell, hwz⟩⟩
  clear hA0 hval0
  refine (walk a0 a1 a2 a3 len3 cap3 z3 W w0 w1 w2 w3).mono fun e W' ⟨he, bel⟩ => ?_
  subst he
  exact ⟨_, rfl, _, _, _, [], _, [], hW', trodAll_mk1 (shut_bool Yba.underlying4 _), (trodAll_cons_mk (shut_int Yba.underlying22 w0) (trodAll_cons_mk (shut_int Yba.underlying22 w1) (trodAll_cons_mk (shut_int Yba.underlying22 w2) (trodAll_cons_mk (Below.trod laidOut (by kernel_rfl) (of_decide_eq_true (by kernel_rfl)) k3 bel lt3) trodAll_mk0)))), rfl, bel.frame _, fun h => by cases h⟩

theorem over : Rows.lawS0602CExactRow.holds Yba.pinned (OpenSpec.ofChange Rows.lawS0602CExactSpec) :=
  OpenClaim.holds_of_wide 3 Yba.f3 rfl rfl rfl rfl rfl rfl rfl ⟨rfl, rfl, rfl, rfl, rfl⟩ rfl rfl rfl rfl rfl (by kernel_rfl) Yba.func3 (by kernel_rfl)
    (of_decide_eq_true (by kernel_rfl)) (by unfold Func.isWrapper; first | (rw [if_pos (by decide +kernel)]; kernel_rfl) | (rw [if_neg (by decide +kernel)]; exact ⟨rfl, rfl⟩))
    (fun os started H enc _ => lifted os started H enc)

/-- ████ THE STATEMENT ████ -/
theorem proved : Rows.LawS0602CExactSaid := over
end Go.Proofs.Ybulklle.lawS0602CExact
namespace Go.Proofs.Ybulklle
theorem lawS0602CExactProved : Rows.LawS0602CExactSaid := lawS0602CExact.proved
end Go.Proofs.Ybulklle
