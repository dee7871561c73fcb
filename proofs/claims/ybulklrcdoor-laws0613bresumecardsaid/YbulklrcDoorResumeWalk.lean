/-
  'LawS0613BResume' (function 4), walked, at slices of at most 256 elements.
-/
import Derived.Test.YbulklrcDoorLive
import Derived.Deep.QuietTactic
import Derived.BigQuiet
import Derived.BigRegion
namespace Go.Proofs.YbulklrcDoor.lawS0613BResume
open Go.ChangeShapes Go.WideShapes Go.ChangeAt Go.RowKit Go.Maps
set_option linter.unusedVariables false
open Go.Lib (decDigits nDigits)

theorem take_snoc_bs (ss : List ByteArray) (k : Nat) (h : k < ss.length) : ss.take (k + 1) = ss.take k ++ [ss.getD k ByteArray.empty] := by
  rw [List.take_succ_eq_append_getElem h]
  simp [List.getElem?_eq_getElem h]

/-- A slice of bytes: where there is an element, the cells. -/
def ByteSlice (w : World) (a : Option Addr) (len : Nat) (zs : List Int) : Prop :=
  (0 < len → ∃ b off, a = some ⟨b, off, none⟩ ∧ ∀ k, k < len → w.cell? ⟨b, off + k, none⟩ = some (.int .u8 (zs.getD k 0)) ∧ 0 ≤ zs.getD k 0 ∧ zs.getD k 0 ≤ 255)

/-- 'append', its run known. -/
theorem wpList_append_eq {P : Program} {w : World} {ops : Array Oper} {rest : List Oper} {o : Oper} {a : Act} {Q : Exit → Act → World → Prop} (hgd : o.guard = none) (s x : Operand) (t : TypeId)
    (ho : o.op = .call { callee := .builtin .append, args := #[s, x], argTypes := #[t, t] }) (v u v' : Value) (w' : World) (hs : a.eval s = v) (hx : a.eval x = u)
    (hrun : (Builtin.append_ #[t, t] o.type #[v, u]).run P w = .ok v' w') (h : wpList P ops Q rest (a.put o.dst v') w') : wpList P ops Q (o :: rest) a w := by
  refine wpList_plain hgd fun _ hK => ?_
  unfold Oper.wp execOp
  simp only [ho, resolve, invoke, builtin, Sem.run_bind, Sem.run_pure, Result.andThen_ok, List.map_toArray, List.map_cons, List.map_nil, hs, hx, hrun]
  exact hK _ _ h

set_option maxRecDepth 100000 in
set_option maxHeartbeats 2000000 in
theorem core (a0 a1 a2 : Option Addr) (len0 cap0 len1 cap1 len2 cap2 : Nat) (nn ts : List ByteArray) (zs : List Int) (w : World) (hS0 : StrSlice w a0 len0 nn) (hS1 : ByteSlice w a1 len1 zs) (hS2 : StrSlice w a2 len2 ts)
    (hsz : ∀ k, k < len2 → (ts.getD k ByteArray.empty).size ≤ maxLen) (htab : Tab w) (h0 : len0 ≤ 256) (h1 : len1 ≤ 256) (h2 : len2 ≤ 256) :
    Calls Ybad.prog 4 #[.slice a0 len0 cap0, .slice a1 len1 cap1, .slice a2 len2 cap2] w fun e w' => e = .returned (.bool true) ∧ Below w.heap.size w w' := by
  have hmm := @run_makeMap Ybad.prog
  have hml : ∀ W : World, (Instr.makeSlice 22 (.int .i64 0) (.int .i64 ((len2 : Int) + (len1 : Int)))).run Ybad.prog W = .ok (.slice (some ⟨W.heap.size, 0, none⟩) 0 (len2 + len1)) (W.alloc (.cells (madeCells #[.string ⟨#[]⟩] (len2 + len1)) 9)) := fun W => by
    have := make_list (len2 + len1) (by omega) W
    rw [Int.natCast_add] at this
    exact this
  have q0 : ¬ (256 : Int) < (len0 : Int) := by omega
  have q1 : ¬ (256 : Int) < (len1 : Int) := by omega
  have q2 : ¬ (256 : Int) < (len2 : Int) := by omega
  have HSZ : Hid (∀ k, k < len2 → (ts.getD k ByteArray.empty).size ≤ maxLen) := hsz
  clear hsz
  have hl0 := hS0.1
  have hl2 := hS2.1
  go_enter Ybad.func4, Ybad.ntmps4
  go_wp2
  go_loop [7] (fun i => ∃ k : Nat, k ≤ len0 ∧ i = .int .i64 k ∧ Hid (∀ j, j < k → (nn.getD j ByteArray.empty).size ≤ 4096)) (fun i => len0 - (intOf i).toNat)
  case atStart => exact ⟨0, Nat.zero_le _, rfl, fun j hj => by omega⟩
  case round =>
    obtain ⟨k, hk, rfl, hno⟩ := hrel
    by_cases hlt : k < len0
    · obtain ⟨b, off, rfl, hc⟩ := hS0.2 (by omega)
      have hck := hc k hlt
      clear hc
      obtain ⟨y, hy⟩ : ∃ y, nn.getD k ByteArray.empty = y := ⟨_, rfl⟩
      rw [hy] at hck
      have HY : Hid (nn.getD k ByteArray.empty = y) := hy
      clear hy
      by_cases hys : (4096 : Int) < (y.size : Int)
      · go_wp2
        go_ret
        exact ⟨rfl, Below.refl _ _⟩
      · go_wp2
        go_round
        case rel =>
          refine ⟨k + 1, by omega, by go_num, fun j hj => ?_⟩
          by_cases hjk : j = k
          · rw [hjk, HY.out]; omega
          · exact hno.out j (by omega)
        case measure => simp [intOf]; omega
    · obtain rfl : k = len0 := by omega
      have hL0 := live_start w (len2 + len1)
      go_wp2
      generalize (((w.alloc (.map #[] 0)).alloc (.map #[] 0)).alloc (.cells #[.map (some w.heap.size), .map (some (w.heap.size + 1))] 27)).alloc (.cells (madeCells #[.string ⟨#[]⟩] (len2 + len1)) 9) = W0 at *
      clear hmm hml
      go_loopw [9, 10] (fun l i wr => ∃ j : Nat, j ≤ len2 ∧ i = .int .i64 j ∧ l = .slice (some ⟨w.heap.size + 1 + 1 + 1, 0, none⟩) j (len2 + len1) ∧ Live w wr (len2 + len1) (ts.take j) (ts.take j) 0 (fun _ _ => 0)) (fun _ i _ => len2 - (intOf i).toNat)
      case atStart => exact ⟨0, Nat.zero_le _, rfl, rfl, hL0⟩
      case round =>
        obtain ⟨j, hj, rfl, rfl, hL⟩ := hrel
        clear hL0
        by_cases hlj : j < len2
        · obtain ⟨b, off, rfl, hc⟩ := hS2.2 (by omega)
          have hcj := hc j hlj
          clear hc
          have hbl : b < w.heap.size := World.block_lt_of_cell? w _ hcj
          have hyz := HSZ.out j hlj
          have hts := take_snoc_bs ts j (by omega)
          generalize ts.getD j ByteArray.empty = y at *
          have hcj' : wr.cell? ⟨b, off + j, none⟩ = some (.string y) := (hL.below.cell (p := ⟨b, off + j, none⟩) hbl).trans hcj
          have htl : (ts.take j).length = j := by rw [List.length_take]; omega
          obtain ⟨w1, hup, hL1⟩ := (hL.drewN 1).store y hyz (by omega)
          have hcj1 : w1.cell? ⟨b, off + j, none⟩ = some (.string y) := (hL1.below.cell (p := ⟨b, off + j, none⟩) hbl).trans hcj
          obtain ⟨w2, hap, hL2⟩ := hL1.append htl (by omega) y 22
          rw [← hts] at hL2
          obtain ⟨c0, c1⟩ := hL.cells
          have hup' : (Instr.mapUpdate 24 (.map (some w.heap.size)) (.string y) (.bool true)).run Ybad.prog wr.drew = .ok () w1 := hup
          clear hup hts htl hcj
          go_wp2
          go_region
          go_wp2_with (first | (at_builtin; refine wpList_append_eq rfl _ _ 22 rfl _ _ _ _ rfl rfl hap ?_) | go_in)
          go_roundw
          case rel => exact ⟨j + 1, by omega, by go_num, rfl, hL2⟩
          case measure => simp [intOf]; omega
        · obtain rfl : j = len2 := by omega
          rw [List.take_of_length_le (by omega)] at hL
          go_wp2
          go_loopw [9, 11] (fun l i wr => ∃ (q n : Nat) (xs : List ByteArray) (f : List UInt8 → Nat → Nat), q ≤ len1 ∧ i = .int .i64 q ∧ l = .slice (some ⟨w.heap.size + 1 + 1 + 1, 0, none⟩) (j + q) (j + len1) ∧ xs.length = j + q ∧ n ≤ q * 601 ∧ Live w wr (j + len1) xs xs n f ∧ Hid (Plain.Inv f (tl xs))) (fun _ i _ => len1 - (intOf i).toNat)
          case atStart => exact ⟨0, 0, ts, _, Nat.zero_le _, rfl, rfl, hl2, Nat.zero_le _, hL, Plain.inv_start _⟩
          case round =>
            obtain ⟨q, n, xs, f, hq, rfl, rfl, hxl, hn, hLq, HI⟩ := hrel
            clear hL
            by_cases hlq : q < len1
            · obtain ⟨b1, off1, rfl, hc1⟩ := hS1 (by omega)
              obtain ⟨hcq, hz0, hz1⟩ := hc1 q hlq
              clear hc1
              have hbl1 : b1 < w.heap.size := World.block_lt_of_cell? w _ hcq
              generalize zs.getD q 0 = z at *
              have hcq' : wr.cell? ⟨b1, off1 + q, none⟩ = some (.int .u8 z) := (hLq.below.cell (p := ⟨b1, off1 + q, none⟩) hbl1).trans hcq
              clear hcq
              by_cases hk0 : (0 : Int) < (k : Int)
              · obtain ⟨b0, off0, rfl, hc0⟩ := hS0.2 (by omega)
                have hm0 : 0 ≤ z % (k : Int) := Int.emod_nonneg _ (by omega)
                have hm1 : z % (k : Int) < (k : Int) := Int.emod_lt_of_pos _ hk0
                have hcm := hc0 (z % (k : Int)).toNat (by omega)
                clear hc0
                have hbl0 : b0 < w.heap.size := World.block_lt_of_cell? w _ hcm
                have hys := hno.out (z % (k : Int)).toNat (by omega)
                generalize nn.getD (z % (k : Int)).toNat ByteArray.empty = y at *
                have hcm' : wr.cell? ⟨b0, off0 + (z % (k : Int)).toNat, none⟩ = some (.string y) := (hLq.below.cell (p := ⟨b0, off0 + (z % (k : Int)).toNat, none⟩) hbl0).trans hcm
                clear hcm
                obtain ⟨K, hKf, hKle⟩ := Plain.exists_first y (tl xs)
                have htl : (tl xs).length = j + q := by unfold tl; simpa using hxl
                rw [htl] at hKle
                clear htl
                have hK2 := hKf.1
                have hK0 : ((K : Int) == 0) = false := by simp; omega
                have HK : Hid (Plain.IsFirst y (tl xs) K) := hKf
                clear hKf
                go_wp2_with fail
                refine (hLq.free htab y hys HI.out HK.out (by omega) (by omega)).mono ?_
                rintro e w2 ⟨x, n', f', rfl, hx, hxs, hL2, hn', HI'⟩
                go_wp2_with fail
                refine (hL2.model htab y hys hxl (by omega) HK.out (by omega)).mono ?_
                rintro e w3 ⟨x', rfl, hx', hL3⟩
                obtain rfl : x' = x := by
                  have e1 : x'.data.toList = x.data.toList := hx'.trans hx.symm
                  rw [← ba_data x', ← ba_data x, e1]
                obtain ⟨w4, hup, hL4⟩ := hL3.store x' (by unfold maxLen; omega) (by omega)
                obtain ⟨w5, hap, hL5⟩ := hL4.append hxl (by omega) x' 22
                obtain ⟨c0, c1⟩ := hL3.cells
                have HI5 : Hid (Plain.Inv f' (tl (xs ++ [x']))) := by
                  have e1 : tl (xs ++ [x']) = tl xs ++ [Plain.cand y K] := by
                    unfold tl
                    rw [List.map_append]
                    have e2 : x'.data.toList = Plain.cand y K := hx
                    simp [e2]
                  rw [e1]
                  exact HI'.out
                clear HI' hx hx' HK
                go_wp2_with (first | (at_builtin; refine wpList_append_eq rfl _ _ 22 rfl _ _ _ _ rfl rfl hap ?_) | go_in)
                go_roundw
                case rel => exact ⟨q + 1, n', xs ++ [x'], f', by omega, by go_num, rfl, by rw [List.length_append, hxl]; rfl, by omega, hL5, HI5⟩
                case measure => simp [intOf]; omega
              · have hk0' : (k : Int) ≤ 0 := by omega
                obtain ⟨K, hKf, hKle⟩ := Plain.exists_first ⟨#[]⟩ (tl xs)
                have htl : (tl xs).length = j + q := by unfold tl; simpa using hxl
                rw [htl] at hKle
                clear htl
                have hK2 := hKf.1
                have hK0 : ((K : Int) == 0) = false := by simp; omega
                have HK : Hid (Plain.IsFirst ⟨#[]⟩ (tl xs) K) := hKf
                clear hKf
                go_wp2_with fail
                refine (hLq.free htab ⟨#[]⟩ (by decide) HI.out HK.out (by omega) (by omega)).mono ?_
                rintro e w2 ⟨x, n', f', rfl, hx, hxs, hL2, hn', HI'⟩
                go_wp2_with fail
                refine (hL2.model htab ⟨#[]⟩ (by decide) hxl (by omega) HK.out (by omega)).mono ?_
                rintro e w3 ⟨x', rfl, hx', hL3⟩
                obtain rfl : x' = x := by
                  have e1 : x'.data.toList = x.data.toList := hx'.trans hx.symm
                  rw [← ba_data x', ← ba_data x, e1]
                obtain ⟨w4, hup, hL4⟩ := hL3.store x' (by unfold maxLen; omega) (by omega)
                obtain ⟨w5, hap, hL5⟩ := hL4.append hxl (by omega) x' 22
                obtain ⟨c0, c1⟩ := hL3.cells
                have HI5 : Hid (Plain.Inv f' (tl (xs ++ [x']))) := by
                  have e1 : tl (xs ++ [x']) = tl xs ++ [Plain.cand ⟨#[]⟩ K] := by
                    unfold tl
                    rw [List.map_append]
                    have e2 : x'.data.toList = Plain.cand ⟨#[]⟩ K := hx
                    simp [e2]
                  rw [e1]
                  exact HI'.out
                clear HI' hx hx' HK
                go_wp2_with (first | (at_builtin; refine wpList_append_eq rfl _ _ 22 rfl _ _ _ _ rfl rfl hap ?_) | go_in)
                go_roundw
                case rel => exact ⟨q + 1, n', xs ++ [x'], f', by omega, by go_num, rfl, by rw [List.length_append, hxl]; rfl, by omega, hL5, HI5⟩
                case measure => simp [intOf]; omega
            · go_wp2
              go_ret
              exact ⟨rfl, hLq.below⟩
end Go.Proofs.YbulklrcDoor.lawS0613BResume
