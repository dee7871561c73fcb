/-
  'zzs0612crun' (function 13), walked: it answers true at every n <= c <= 1000.
-/
import Derived.Test.YbulklqoReset
namespace Go.Proofs.Ybulklqo
open Go.ChangeShapes Go.WideShapes Go.ChangeAt Go.RowKit
set_option linter.unusedVariables false

theorem info113 : (Yba.prog.info? 113).map (fun i => (i.zero, i.size, i.bytes)) = some (some (.pointer none), 1, 8) := by kernel_rfl
theorem make_held (n c : Nat) (hnc : n ≤ c) (hc : c ≤ 1000) (w : World) :
    (Instr.makeSlice 80 (.int .i64 (n : Int)) (.int .i64 (c : Int))).run Yba.prog w = .ok (.slice (some ⟨w.heap.size, 0, none⟩) n c) (w.alloc (.cells (madeCells #[.pointer none] c) 113)) := by
  obtain ⟨i, hi, hzz⟩ := Option.map_eq_some_iff.1 info113
  simp only [Prod.mk.injEq] at hzz
  obtain ⟨hz, hs, hb⟩ := hzz
  have hr := run_make (P := Yba.prog) w 80 113 i (.pointer none) Yba.underlying80 hi hz .i64 .i64 n c (by omega) (by omega) (by rw [hb]; omega) (by omega)
  simp only [Int.toNat_natCast, hs, Nat.mul_one] at hr
  exact hr

set_option maxRecDepth 100000 in
set_option maxHeartbeats 1000000 in
theorem crun_any (n c : Nat) (txn : Int) (wait : Bool) (hnc : n ≤ c) (hc : c ≤ 1000) (w : World) :
    Calls Yba.prog 13 #[.int .i64 n, .int .i64 c, .int .i64 txn, .bool wait] w fun e w' => e = .returned (.bool true) ∧ Below w.heap.size w w' := by
  have hmk := make_held n c hnc hc
  have hn1 := fun W : World => Lib.run_eql_slice_nil (P := Yba.prog) W 80 113 none 0 0 0 0 Yba.underlying80
  have hn2 := fun (W : World) (x : Addr) (n c : Nat) => run_neq_slice_nil_any (P := Yba.prog) W 80 113 (some x) n c 0 0 Yba.underlying80
  go_enter Yba.func13, Yba.ntmps13
  go_wp2
  go_loopw [10] (fun i wr => ∃ k : Nat, k ≤ n ∧ i = .int .i64 k ∧ (∀ j, j < c → ∃ v, wr.cell? ⟨w.heap.size, j, none⟩ = some v) ∧ (∀ j, wr.frozen? ⟨w.heap.size, j, none⟩ = false) ∧ w.heap.size < wr.heap.size ∧ Below w.heap.size w wr) (fun i _ => n - (intOf i).toNat)
  case atStart => 
    refine ⟨0, Nat.zero_le _, rfl, fun j hj => ?_, fun j => ?_, by simp, (Below.refl _ _).alloc (Nat.le_refl _) _⟩
    · simp only [World.cell?, (MapKept.heap_alloc w _).1]
      exact ⟨_, Array.getElem?_eq_getElem (by rw [size_madeCells]; exact hj)⟩
    · simp only [World.frozen?, (MapKept.heap_alloc w _).1]
      simp
  case round =>
    obtain ⟨k, hk, rfl, hcs, hfs, hsz, hnx⟩ := hrel
    by_cases hlt : k < n
    · obtain ⟨v, hv⟩ := hcs k (by omega)
      have hf := hfs k
      have HC : Hid ((∀ j, j < c → ∃ v, wr.cell? ⟨w.heap.size, j, none⟩ = some v) ∧ (∀ j, wr.frozen? ⟨w.heap.size, j, none⟩ = false)) := ⟨hcs, hfs⟩
      clear hcs hfs
      go_wp2
      go_roundw
      case rel =>
        refine ⟨k + 1, by omega, by go_num, fun j hj => ?_, fun j => ?_, by simp; omega, (hnx.setCell (Nat.le_refl _) _).alloc (by simpa using hnx.size) _⟩
        · obtain ⟨u, hu⟩ := HC.out.1 j hj
          obtain ⟨u', hu'⟩ := cell?_setCell_some (p := ⟨w.heap.size, k, none⟩) (x := .pointer (some ⟨wr.heap.size, 0, none⟩)) hu
          exact ⟨u', Lib.cell?_alloc_some _ hu'⟩
        · have hb : (wr.setCell ⟨w.heap.size, k, none⟩ (.pointer (some ⟨wr.heap.size, 0, none⟩))).heap.size = wr.heap.size := by simp
          rw [World.frozen?_of_block (Below.heap_alloc _ _ _ (by rw [hb]; exact hsz)), World.frozen?_setCell]
          exact HC.out.2 j
      case measure => simp [intOf]; omega
    · obtain rfl : k = n := by omega
      have HC : Hid ((∀ j, j < c → ∃ v, wr.cell? ⟨w.heap.size, j, none⟩ = some v) ∧ (∀ j, wr.frozen? ⟨w.heap.size, j, none⟩ = false)) := ⟨hcs, hfs⟩
      clear hcs hfs
      have hold : ∀ o1 : Obj, (∀ j, j < k → ((wr.alloc o1).cell? ⟨w.heap.size, j, none⟩).isSome = true) ∧ (∀ j, j < k → (wr.alloc o1).frozen? ⟨w.heap.size, j, none⟩ = false) := fun o1 =>
        ⟨fun j hj => by obtain ⟨u, hu⟩ := HC.out.1 j (by omega); rw [Lib.cell?_alloc_some o1 hu]; rfl, fun j hj => by rw [World.frozen?_of_block (Below.heap_alloc _ _ _ hsz)]; exact HC.out.2 j⟩
      have hold2 : ∀ o1 o2 : Obj, (∀ j, j < k → (((wr.alloc o1).alloc o2).cell? ⟨w.heap.size, j, none⟩).isSome = true) ∧ (∀ j, j < k → ((wr.alloc o1).alloc o2).frozen? ⟨w.heap.size, j, none⟩ = false) := fun o1 o2 =>
        ⟨fun j hj => by obtain ⟨u, hu⟩ := HC.out.1 j (by omega); rw [Lib.cell?_alloc_some o2 (Lib.cell?_alloc_some o1 hu)]; rfl, fun j hj => by rw [World.frozen?_of_block (Below.heap_alloc _ _ _ (by simp; omega)), World.frozen?_of_block (Below.heap_alloc _ _ _ hsz)]; exact HC.out.2 j⟩
      have HO : Hid (∀ o1 : Obj, (∀ j, j < k → ((wr.alloc o1).cell? ⟨w.heap.size, j, none⟩).isSome = true) ∧ (∀ j, j < k → (wr.alloc o1).frozen? ⟨w.heap.size, j, none⟩ = false)) := hold
      have HO2 : Hid (∀ o1 o2 : Obj, (∀ j, j < k → (((wr.alloc o1).alloc o2).cell? ⟨w.heap.size, j, none⟩).isSome = true) ∧ (∀ j, j < k → ((wr.alloc o1).alloc o2).frozen? ⟨w.heap.size, j, none⟩ = false)) := hold2
      clear hold hold2 HC
      cases wait
      · go_wp2_with fail
        refine (reset_any wr.heap.size w.heap.size k c (wrap64 (txn + 1)) txn (.pointer none) _ (by go_simp) (by go_simp) (by go_simp) (by go_simp) (by go_simp) (by go_simp) hnc (by omega) (HO.out _).1 (HO.out _).2).mono ?_
        rintro e w3 ⟨rfl, k0, k1, k2, k3, k4⟩
        have hB : Below w.heap.size w w3 := (hnx.alloc (by omega) _).trans (k4 _ (by omega) (Nat.le_refl _))
        have HK : Hid (∀ j, j < k → w3.cell? ⟨w.heap.size, j, none⟩ = some (.pointer none)) := k3
        clear k4 k3 HO HO2
        by_cases h64 : (64 : Int) < (c : Int)
        · have e64 : heldOf w.heap.size c = .slice none 0 0 := if_pos (by omega)
          rw [e64] at k1
          clear e64
          go_wp2
          go_loop [12] (fun i => ∃ j : Nat, j ≤ k ∧ i = .int .i64 j) (fun i => k - (intOf i).toNat)
          case atStart => exact ⟨0, Nat.zero_le _, rfl⟩
          case round =>
            obtain ⟨j, hj, rfl⟩ := hrel
            by_cases hlj : j < k
            · have hcj := HK.out j hlj
              go_wp2
              go_round
              case rel => exact ⟨j + 1, by omega, by go_num⟩
              case measure => simp [intOf]; omega
            · go_wp2
              go_ret
              exact ⟨rfl, hB⟩
        · have e64 : heldOf w.heap.size c = .slice (some ⟨w.heap.size, 0, none⟩) 0 c := if_neg (by omega)
          rw [e64] at k1
          clear e64
          go_wp2
          go_loop [12] (fun i => ∃ j : Nat, j ≤ k ∧ i = .int .i64 j) (fun i => k - (intOf i).toNat)
          case atStart => exact ⟨0, Nat.zero_le _, rfl⟩
          case round =>
            obtain ⟨j, hj, rfl⟩ := hrel
            by_cases hlj : j < k
            · have hcj := HK.out j hlj
              go_wp2
              go_round
              case rel => exact ⟨j + 1, by omega, by go_num⟩
              case measure => simp [intOf]; omega
            · go_wp2
              go_ret
              exact ⟨by simp, hB⟩
      · go_wp2_with fail
        refine (reset_any wr.heap.size w.heap.size k c (wrap64 (txn + 1)) txn (.pointer (some ⟨wr.heap.size + 1, 0, none⟩)) _ (by go_simp) (by go_simp) (by go_simp) (by go_simp) (by go_simp) (by go_simp) hnc (by omega) (HO2.out _ _).1 (HO2.out _ _).2).mono ?_
        rintro e w3 ⟨rfl, k0, k1, k2, k3, k4⟩
        have hB : Below w.heap.size w w3 := ((hnx.alloc (by omega) _).alloc (by simp; omega) _).trans (k4 _ (by omega) (Nat.le_refl _))
        have HK : Hid (∀ j, j < k → w3.cell? ⟨w.heap.size, j, none⟩ = some (.pointer none)) := k3
        clear k4 k3 HO HO2
        by_cases h64 : (64 : Int) < (c : Int)
        · have e64 : heldOf w.heap.size c = .slice none 0 0 := if_pos (by omega)
          rw [e64] at k1
          clear e64
          go_wp2
          go_loop [12] (fun i => ∃ j : Nat, j ≤ k ∧ i = .int .i64 j) (fun i => k - (intOf i).toNat)
          case atStart => exact ⟨0, Nat.zero_le _, rfl⟩
          case round =>
            obtain ⟨j, hj, rfl⟩ := hrel
            by_cases hlj : j < k
            · have hcj := HK.out j hlj
              go_wp2
              go_round
              case rel => exact ⟨j + 1, by omega, by go_num⟩
              case measure => simp [intOf]; omega
            · go_wp2
              go_ret
              exact ⟨rfl, hB⟩
        · have e64 : heldOf w.heap.size c = .slice (some ⟨w.heap.size, 0, none⟩) 0 c := if_neg (by omega)
          rw [e64] at k1
          clear e64
          go_wp2
          go_loop [12] (fun i => ∃ j : Nat, j ≤ k ∧ i = .int .i64 j) (fun i => k - (intOf i).toNat)
          case atStart => exact ⟨0, Nat.zero_le _, rfl⟩
          case round =>
            obtain ⟨j, hj, rfl⟩ := hrel
            by_cases hlj : j < k
            · have hcj := HK.out j hlj
              go_wp2
              go_round
              case rel => exact ⟨j + 1, by omega, by go_num⟩
              case measure => simp [intOf]; omega
            · go_wp2
              go_ret
              exact ⟨by simp, hB⟩

/-- .. at ints. -/
theorem crun_int (n c txn : Int) (wait : Bool) (h0 : 0 ≤ n) (hnc : n ≤ c) (hc : c ≤ 1000) (w : World) :
    Calls Yba.prog 13 #[.int .i64 n, .int .i64 c, .int .i64 txn, .bool wait] w fun e w' => e = .returned (.bool true) ∧ Below w.heap.size w w' := by
  obtain ⟨n', rfl⟩ := Int.eq_ofNat_of_zero_le h0
  obtain ⟨c', rfl⟩ := Int.eq_ofNat_of_zero_le (Int.le_trans h0 hnc)
  exact crun_any n' c' txn wait (by omega) (by omega) w
end Go.Proofs.Ybulklqo
