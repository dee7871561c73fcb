/-
  'LawS0613BFirstFree' (function 3), walked, at a name of at most 4096 bytes and at most 256 names taken.
-/
import Derived.Test.YbulklrcDoorFree
import Derived.Lib.QuietBelow
namespace Go.Proofs.YbulklrcDoor.lawS0613BFirstFree
open Go.ChangeShapes Go.WideShapes Go.ChangeAt Go.RowKit Go.Maps
set_option linter.unusedVariables false
open Go.Lib (decDigits nDigits)

theorem take_snoc_tl (ss : List ByteArray) (k : Nat) (h : k < ss.length) : tl (ss.take (k + 1)) = tl (ss.take k) ++ [(ss.getD k ByteArray.empty).data.toList] := by
  unfold tl
  rw [List.take_succ_eq_append_getElem h, List.map_append]
  simp [List.getElem?_eq_getElem h]

theorem start_next (w : World) (o : Obj) : (((w.alloc (.map #[] 0)).alloc (.map #[] 0)).alloc o).ownsMap Ybad.prog 34 (plainElem Ybad.prog 3) (w.heap.size + 1) 0 (.map [] : DataW Unit) := by
  have := (World.ownsMap_made (H := Unit) (w.alloc (.map #[] 0)) Ybad.prog 34 (plainElem Ybad.prog 3)).alloc o
  simpa using this
theorem start_taken (w : World) (o : Obj) : (((w.alloc (.map #[] 0)).alloc (.map #[] 0)).alloc o).ownsMap Ybad.prog 9 (plainElem Ybad.prog 4) w.heap.size 0 (.map [] : DataW Unit) :=
  ((World.ownsMap_made (H := Unit) w Ybad.prog 9 (plainElem Ybad.prog 4)).alloc _).alloc o
theorem start_cells (w : World) (cs : Array Value) (t : TypeId) (j : Nat) : (((w.alloc (.map #[] 0)).alloc (.map #[] 0)).alloc (.cells cs t)).cell? ⟨w.heap.size + 1 + 1, j, none⟩ = cs[j]? := by
  have h : (((w.alloc (.map #[] 0)).alloc (.map #[] 0)).alloc (.cells cs t)).heap[w.heap.size + 1 + 1]? = some (.cells cs t) := by
    have := (MapKept.heap_alloc ((w.alloc (.map #[] 0)).alloc (.map #[] 0)) (.cells cs t)).1
    simpa using this
  simp only [World.cell?, h]
  rfl

theorem bcut_det (s : ByteArray) (m : Int) (h0 : 0 ≤ m) (hm : m ≤ 60) (w : World) (hs : s.size ≤ 4096) :
    Calls Ybad.prog 8 #[.string s, .int .i64 m] w fun e w' => e = .returned (.string (ba (Plain.cut s m.toNat))) ∧ Below w.heap.size w w' := by
  obtain ⟨n, rfl⟩ := Int.eq_ofNat_of_zero_le h0
  exact bcut_any s n w hs (by omega)

set_option maxRecDepth 100000 in
set_option maxHeartbeats 2000000 in
theorem core (s : ByteArray) (a : Option Addr) (len cap : Nat) (ss : List ByteArray) (w : World) (hS : StrSlice w a len ss) (hsz : ∀ k, k < len → (ss.getD k ByteArray.empty).size ≤ maxLen) (hs : s.size ≤ 4096) (hl : len ≤ 256) (htab : Tab w) :
    Calls Ybad.prog 3 #[.string s, .slice a len cap] w fun e w' => e = .returned (.bool true) ∧ Below w.heap.size w w' := by
  have hmm := @run_makeMap Ybad.prog
  have hs' : ¬ (4096 : Int) < (s.size : Int) := by omega
  have hl' : ¬ (256 : Int) < (len : Int) := by omega
  have hlen := hS.1
  have HSZ : Hid (∀ k, k < len → (ss.getD k ByteArray.empty).size ≤ maxLen) := hsz
  clear hsz
  have hcl := start_cells w #[.map (some w.heap.size), .map (some (w.heap.size + 1))] 27
  have hst := start_taken w (.cells #[.map (some w.heap.size), .map (some (w.heap.size + 1))] 27)
  have hsn := start_next w (.cells #[.map (some w.heap.size), .map (some (w.heap.size + 1))] 27)
  have hB0 : Below w.heap.size w (((w.alloc (.map #[] 0)).alloc (.map #[] 0)).alloc (.cells #[.map (some w.heap.size), .map (some (w.heap.size + 1))] 27)) := (((Below.refl _ _).alloc (Nat.le_refl _) _).alloc (by simp) _).alloc (by simp; omega) _
  have HW : Hid ((∀ j, (((w.alloc (.map #[] 0)).alloc (.map #[] 0)).alloc (.cells #[.map (some w.heap.size), .map (some (w.heap.size + 1))] 27)).cell? ⟨w.heap.size + 1 + 1, j, none⟩ = #[Value.map (some w.heap.size), .map (some (w.heap.size + 1))][j]?)
      ∧ (((w.alloc (.map #[] 0)).alloc (.map #[] 0)).alloc (.cells #[.map (some w.heap.size), .map (some (w.heap.size + 1))] 27)).ownsMap Ybad.prog 9 (plainElem Ybad.prog 4) w.heap.size 0 (.map [] : DataW Unit)
      ∧ (((w.alloc (.map #[] 0)).alloc (.map #[] 0)).alloc (.cells #[.map (some w.heap.size), .map (some (w.heap.size + 1))] 27)).ownsMap Ybad.prog 34 (plainElem Ybad.prog 3) (w.heap.size + 1) 0 (.map [] : DataW Unit)
      ∧ Below w.heap.size w (((w.alloc (.map #[] 0)).alloc (.map #[] 0)).alloc (.cells #[.map (some w.heap.size), .map (some (w.heap.size + 1))] 27))) := ⟨hcl, hst, hsn, hB0⟩
  clear hcl hst hsn hB0
  go_enter Ybad.func3, Ybad.ntmps3
  go_wp2
  generalize hW0 : ((w.alloc (.map #[] 0)).alloc (.map #[] 0)).alloc (.cells #[.map (some w.heap.size), .map (some (w.heap.size + 1))] 27) = W0 at *
  clear hW0
  obtain ⟨hcl, hst, hsn, hB0⟩ := HW.out
  have c0 : W0.cell? ⟨w.heap.size + 1 + 1, 0, none⟩ = some (.map (some w.heap.size)) := hcl 0
  have c1 : W0.cell? ⟨w.heap.size + 1 + 1, 1, none⟩ = some (.map (some (w.heap.size + 1))) := hcl 1
  clear hcl HW
  go_loopw [6] (fun i wr => ∃ (k : Nat) (T : DataW Unit), k ≤ len ∧ i = .int .i64 k ∧ wr.ownsMap Ybad.prog 9 (plainElem Ybad.prog 4) w.heap.size k T ∧ IsTaken T (tl (ss.take k)) ∧ W0.grownBy wr (some w.heap.size) ∧ Below w.heap.size w wr) (fun i _ => len - (intOf i).toNat)
  case atStart => exact ⟨0, .map [], Nat.zero_le _, rfl, hst, taken_start, ⟨rfl, rfl, rfl, Nat.le_refl _, fun _ _ _ => rfl⟩, hB0⟩
  case round =>
    obtain ⟨k, T, hk, rfl, hT, hTk, hg, hB⟩ := hrel
    have d0 := grown_cell hg c0 (fun e => by have := Option.some.inj e; omega)
    by_cases hlt : k < len
    · obtain ⟨b, off, rfl, hc⟩ := hS.2 (by omega)
      have hck := hc k hlt
      have hbl : b < w.heap.size := World.block_lt_of_cell? w _ hck
      have hck' : wr.cell? ⟨b, off + k, none⟩ = some (.string (ss.getD k ByteArray.empty)) := (hB.cell (p := ⟨b, off + k, none⟩) hbl).trans hck
      have hyz := HSZ.out k hlt
      have hts := take_snoc_tl ss k (by omega)
      clear hc hck
      generalize ss.getD k ByteArray.empty = y at *
      obtain ⟨w1, T1, hup, hT1, hTk1, hg1⟩ := taken_store (w := wr.drew) hT hTk y hyz (by unfold maxLen; omega)
      rw [← hts] at hTk1
      clear hts
      go_wp2
      go_region
      go_wp2
      go_roundw
      case rel => exact ⟨k + 1, T1, by omega, by go_num, hT1, hTk1, (grown_drewN hg 1).andThen hg1 (fun j hj => .inr hj), hB.drew.grown hg1 hB.size (fun j hj => by cases hj; exact Nat.le_refl _)⟩
      case measure => simp [intOf]; omega
    · obtain rfl : k = len := by omega
      rw [List.take_of_length_le (by omega)] at hTk
      obtain ⟨K, hKf, hKle⟩ := Plain.exists_first s (tl ss)
      have htl : (tl ss).length = k := by unfold tl; simpa using hlen
      rw [htl] at hKle
      clear htl
      have hK2 := hKf.1
      have hK0 : ((K : Int) == 0) = false := by simp; omega
      have d1 := grown_cell hg c1 (fun e => by have := Option.some.inj e; omega)
      have hX := hsn.kept hg (fun e => by have := Option.some.inj e; omega)
      have hTb : Tab wr := htab.below hB (Nat.le_refl _)
      have hln := hT.len Ybad.underlying24
      have HK : Hid (Plain.IsFirst s (tl ss) K) := hKf
      clear hKf
      go_wp2_with fail
      refine (free_any s (w.heap.size + 1 + 1) w.heap.size (w.heap.size + 1) k 0 K T (.map []) (tl ss) (fun _ _ => 0) wr hs hTb d0 d1 hT hTk hX next_start (Plain.inv_start _) (by omega) (by omega) HK.out (by omega) (by unfold maxLen; omega)).mono ?_
      rintro e w2 ⟨x, N', f', n', rfl, hx, hxs, hg2, hX2, hn2, hN2, hI2, hf2⟩
      have hB2 : Below w.heap.size w w2 := hB.grown hg2 hB.size (fun j hj => by cases hj; exact Nat.le_succ _)
      have hTb2 : Tab w2 := hTb.grown hg2 (by omega)
      have hT2 := hT.kept hg2 (fun e => by have := Option.some.inj e; omega)
      have k0 := grown_cell hg2 d0 (fun e => by have := Option.some.inj e; omega)
      have k1 := grown_cell hg2 d1 (fun e => by have := Option.some.inj e; omega)
      clear hln hX hT hI2 hn2
      go_wp2_with fail
      refine (model_any s a k cap K ss w2 (hS.below hB2) hs (by omega) hTb2 HK.out hKle).mono ?_
      rintro e w3 ⟨x', rfl, hx', hxs', hb3⟩
      obtain rfl : x' = x := by
        have e1 : x'.data.toList = x.data.toList := hx'.trans hx.symm
        rw [← ba_data x', ← ba_data x, e1]
      have hT3 := hT2.kept (grown_of_below hb3) (by simp)
      have hX3 := hX2.kept (grown_of_below hb3) (by simp)
      have hln := hT3.len Ybad.underlying24
      have m0 := grown_cell (grown_of_below hb3) k0 (by simp)
      have m1 := grown_cell (grown_of_below hb3) k1 (by simp)
      have hTb3 : Tab w3 := hTb2.below hb3 (Nat.le_refl _)
      have hB3 : Below w.heap.size w w3 := hB2.trans (hb3.mono hB2.size)
      clear hT2 hX2 k0 k1
      have HF : Hid (f' (Plain.stemOf s (nDigits K)) (nDigits K) = K + 1) := hf2
      clear hf2
      go_wp2_with fail
      refine (itoa_any K (by omega) w3 hTb3).mono ?_
      rintro e w4 ⟨t, rfl, hd, hts, ht1, ht3, hb4⟩
      have hX4 := hX3.kept (grown_of_below hb4) (by simp)
      have n1 := grown_cell (grown_of_below hb4) m1 (by simp)
      have hB4 : Below w.heap.size w w4 := hB3.trans (hb4.mono hB3.size)
      obtain ⟨c, hc⟩ : ∃ c, c = ba (Plain.cut s (60 - (1 + (t.size : Int))).toNat) := ⟨_, rfl⟩
      have hcs : c.size ≤ 4096 := by rw [hc, ba_size]; exact Nat.le_trans (Plain.cut_length s _) hs
      have hst' := cut_stem (k := K) (show IsCut c s (60 - (1 + (t.size : Int))).toNat from hc) hts
      have p1 := cell_regrown n1
      have hval : f' c.data.toList t.size = K + 1 := by rw [hst', hts]; exact HF.out
      have cB : ∀ d os, Calls Ybad.prog 8 #[.string s, .int .i64 (60 - (1 + (t.size : Int)))] (Sort.grow (redrawn w4 d) os) fun e w'' => e = .returned (.string c) ∧ ∃ p : Regrown, w'' = Sort.grow (redrawn w4 p.d) p.os := fun d os => by
        rw [hc]
        exact Calls.regrown_of (bcut_det s _ (by omega) (by omega) _ hs)
      have hlk : ∀ d os, (Instr.lookup 25 (.map (some (w.heap.size + 1))) (.agg #[.string c, .int .i64 (1 + (t.size : Int) - 1)]) false).run Ybad.prog (Sort.grow (redrawn w4 d) os) = .ok (.int .i64 ((K : Int) + 1)) (Sort.grow (redrawn w4 d) os) := fun d os => by
        have := next_look (w := Sort.grow (redrawn w4 d) os) (hX4.kept (grown_of_below (below_regrown w4 d os)) (by simp)) hN2 c (1 + (t.size : Int) - 1) t.size (by omega) (by omega) (by omega)
        rw [hval] at this
        exact this
      clear hc hst' hts HF hN2 hX4 hX3 hT3 m0 m1 hln hval hb4 hB3 hTb3 hb3 hTb2 hB2 hg2 hTb hB hg hB0 c0 c1 d0 d1 hst hsn HSZ HK hTk hS hmm htab
      go_wp2_with fail
      refine wp_region_quiet_below (by kernel_rfl) (by kernel_rfl) ?_
      repeat (go_big_quiet_step (exact cB _ _))
      refine wpQuiet_nil ?_
      intro _ hw'
      obtain ⟨⟨dq, osq⟩, hw''⟩ := hw'
      subst hw''
      go_wp2
      go_ret
      exact ⟨by simp, hB4.trans ((below_regrown w4 dq osq).mono hB4.size)⟩
end Go.Proofs.YbulklrcDoor.lawS0613BFirstFree
