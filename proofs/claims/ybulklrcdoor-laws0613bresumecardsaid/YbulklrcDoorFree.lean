/-
  '(*Namer).free' (function 5), walked: it answers the first candidate that is not taken, and keeps what 'next' says.
-/
import Derived.Test.YbulklrcDoorMaps
import Derived.Maps.Range
import Derived.Deep.QuietTactic
import Derived.BigQuiet
import Derived.BigRegion
namespace Go.Proofs.YbulklrcDoor
open Go.ChangeShapes Go.WideShapes Go.ChangeAt Go.RowKit Go.Maps
set_option linter.unusedVariables false
open Go.Lib (decDigits nDigits)

theorem grown_of_below {w w' : World} (h : Below w.heap.size w w') : w.grownBy w' none := ⟨h.os, h.tape, h.output, h.size, fun i hi _ => h.block i hi⟩
theorem grown_none {a b c : World} {row : Option Nat} (h : a.grownBy b row) (k : b.grownBy c none) : a.grownBy c row := h.andThen k (fun j hj => by cases hj)
theorem grown_drewN {a b : World} {row : Option Nat} (h : a.grownBy b row) (q : Nat) : a.grownBy (b.drewN q) row := ⟨h.os, h.tape, h.output, h.size, h.block⟩
theorem grown_cell {w w' : World} {row : Option Nat} (h : w.grownBy w' row) {b o : Nat} {v : Value} (hc : w.cell? ⟨b, o, none⟩ = some v) (hne : some b ≠ row) : w'.cell? ⟨b, o, none⟩ = some v :=
  (World.cell?_of_block (h.block b (World.block_lt_of_cell? w _ hc) hne)).trans hc
theorem Tab.grown {w w' : World} {x : Nat} (h : Tab w) (hg : w.grownBy w' (some x)) (hx : x ≠ 0) : Tab w' := by
  have hb : Below 1 w w' := ⟨hg.os, hg.tape, hg.output, hg.size, fun i hi => hg.block i (Nat.lt_of_lt_of_le hi h.lt) (fun e => by have := Option.some.inj e; omega)⟩
  exact var?_below hb glob (by omega) h
theorem cell_ne_map {w : World} {nb xb o n : Nat} {v : Value} {k : TypeId} {R : Value → Option (DataW Unit × List MemPlace)} {D : DataW Unit} (hc : w.cell? ⟨nb, o, none⟩ = some v) (hm : w.ownsMap Ybad.prog k R xb n D) : nb ≠ xb := by
  obtain ⟨es, clock, hb, _⟩ := hm
  intro e
  subst e
  simp [World.cell?, hb] at hc

theorem cut_stem {c s t : ByteArray} {k : Nat} (hc : IsCut c s (60 - (1 + (t.size : Int))).toNat) (ht : t.size = nDigits k) : c.data.toList = Plain.stemOf s (nDigits k) := by
  unfold IsCut at hc
  subst hc
  rw [data_ba, Plain.stemOf, show (60 - (1 + (t.size : Int))).toNat = 59 - nDigits k by omega]

set_option maxRecDepth 100000 in
set_option maxHeartbeats 1000000 in
theorem free_any (s : ByteArray) (nb tb xb nt nx K : Nat) (T N0 : DataW Unit) (L : List (List UInt8)) (f0 : List UInt8 → Nat → Nat) (w : World) (hs : s.size ≤ 4096) (htab : Tab w)
    (c0 : w.cell? ⟨nb, 0, none⟩ = some (.map (some tb))) (c1 : w.cell? ⟨nb, 1, none⟩ = some (.map (some xb)))
    (hT : w.ownsMap Ybad.prog 9 (plainElem Ybad.prog 4) tb nt T) (hTL : IsTaken T L) (hX : w.ownsMap Ybad.prog 34 (plainElem Ybad.prog 3) xb nx N0) (hXf : IsNext N0 f0) (hI : Plain.Inv f0 L) (htx : tb ≠ xb) (hx0 : xb ≠ 0)
    (hK : Plain.IsFirst s L K) (hK6 : K ≤ 600) (hnx : nx + 1000 < maxLen) :
    Calls Ybad.prog 5 #[.pointer (some ⟨nb, 0, none⟩), .string s] w fun e w' => ∃ x N' f' n', e = .returned (.string x) ∧ IsCand x s K ∧ x.size ≤ 5000 ∧ w.grownBy w' (some xb) ∧ w'.ownsMap Ybad.prog 34 (plainElem Ybad.prog 3) xb n' N' ∧ n' ≤ nx + 601 ∧ IsNext N' f' ∧
      Plain.Inv f' (L ++ [Plain.cand s K]) ∧ f' (Plain.stemOf s (nDigits K)) (nDigits K) = K + 1 := by
  have hK2 := hK.1
  have HK : Hid (Plain.IsFirst s L K) := hK
  have HI : Hid (Plain.Inv f0 L) := hI
  have hne : nb ≠ xb := cell_ne_map c0 hX
  clear hK hI
  go_enter Ybad.func5, Ybad.ntmps5
  go_wp2
  go_loopw [5] (fun i wr => ∃ (k n : Nat) (N : DataW Unit) (f : List UInt8 → Nat → Nat), 2 ≤ k ∧ k ≤ K ∧ i = .int .i64 k ∧ n ≤ nx + k ∧ wr.ownsMap Ybad.prog 34 (plainElem Ybad.prog 3) xb n N ∧ IsNext N f ∧ Hid (Plain.Inv f L) ∧ w.grownBy wr (some xb)) (fun i _ => K + 1 - (intOf i).toNat)
  case atStart => exact ⟨2, nx, N0, f0, Nat.le_refl _, hK2, rfl, by omega, hX, hXf, HI, ⟨rfl, rfl, rfl, Nat.le_refl _, fun _ _ _ => rfl⟩⟩
  case round =>
    obtain ⟨k, n, N, f, hk2, hkK, rfl, hn, hXr, hNf, HIr, hgr⟩ := hrel
    have hTb : Tab wr := htab.grown hgr hx0
    go_wp2_with fail
    refine (itoa_any k (by omega) wr hTb).mono ?_
    rintro e w1 ⟨t, rfl, hd, hts, ht1, ht3, hb1⟩
    have HT : Hid (t.size = nDigits k) := hts
    clear hts
    go_wp2_with fail
    refine (cutName_int s _ (by omega) (by omega) w1 hs).mono ?_
    rintro e w2 ⟨c, rfl, hc, hcs, hb2⟩
    have hx := isCand_mk hc hd (by rw [HT.out])
    go_wp2_with fail
    have hst := cut_stem hc HT.out
    have hg2 : w.grownBy w2 (some xb) := grown_none (grown_none hgr (grown_of_below hb1)) (grown_of_below hb2)
    have hX2 : w2.ownsMap Ybad.prog 34 (plainElem Ybad.prog 3) xb n N := (hXr.kept (grown_of_below hb1) (by simp)).kept (grown_of_below hb2) (by simp)
    have hT2 : w2.ownsMap Ybad.prog 9 (plainElem Ybad.prog 4) tb nt T := hT.kept hg2 (by simpa using htx)
    have d0 := grown_cell hg2 c0 (by simpa using hne)
    have d1 := grown_cell hg2 c1 (by simpa using hne)
    have hnb : nb < w2.heap.size := World.block_lt_of_cell? w2 _ d0
    obtain ⟨o, ho⟩ : ∃ o, o = Obj.cells #[.string c, .int .i64 (1 + (t.size : Int) - 1)] 34 := ⟨_, rfl⟩
    have e0 : (w2.alloc o).cell? ⟨nb, 0, none⟩ = some (.map (some tb)) := Lib.cell?_alloc_some _ d0
    have e1 : (w2.alloc o).cell? ⟨nb, 1, none⟩ = some (.map (some xb)) := Lib.cell?_alloc_some _ d1
    have hX3 := hX2.alloc o
    have hT3 := hT2.alloc o
    have hg3 : w.grownBy (w2.alloc o) (some xb) := grown_none hg2 (World.grownBy_alloc w2 o none)
    obtain ⟨m, hm⟩ : ∃ m, f (Plain.stemOf s (nDigits k)) (nDigits k) = m := ⟨_, rfl⟩
    have hlk : ∀ q, (Instr.lookup 25 (.map (some xb)) (.agg #[.string c, .int .i64 (1 + (t.size : Int) - 1)]) false).run Ybad.prog ((w2.alloc o).drewN q) = .ok (.int .i64 (m : Int)) ((w2.alloc o).drewN q) := fun q => by
      have := next_look (w := (w2.alloc o).drewN q) hX3 hNf c (1 + (t.size : Int) - 1) t.size (by omega) (by omega) (by omega)
      rw [hst, HT.out, hm, ← HT.out] at this
      exact this
    have HM : Hid (f (Plain.stemOf s (nDigits k)) (nDigits k) = m) := hm
    have HST : Hid (c.data.toList = Plain.stemOf s (nDigits k)) := hst
    clear hm hst
    subst ho
    by_cases hkm : k < m
    · have hmK : m ≤ K := by have := Plain.jump HIr.out HK.out hk2 hkK (by rw [HM.out]; exact hkm); rw [HM.out] at this; exact this
      go_quiet (fail)
      go_wp2
      go_roundw
      case rel => exact ⟨m, n, N, f, by omega, hmK, by go_num, by omega, hX3, hNf, HIr, grown_drewN hg3 _⟩
      case measure => simp [intOf]; omega
    · go_quiet (fail)
      go_wp2
      obtain ⟨w4, N', hup, hX4, hN4, hg4⟩ := next_store (w := (w2.alloc (Obj.cells #[.string c, .int .i64 (1 + (t.size : Int) - 1)] 34)).drewN (nq + 1)) hX3 hNf c (1 + (t.size : Int) - 1) t.size (by omega) (by omega) (by omega) (by omega) ((k : Int) + 1) (k + 1) (by omega) (by omega)
      have hnew : (w2.alloc (Obj.cells #[.string c, .int .i64 (1 + (t.size : Int) - 1)] 34)).cell? ⟨w2.heap.size, 0, none⟩ = some (.string c) := by
        simp only [World.cell?, (MapKept.heap_alloc w2 _).1]
        rfl
      have hxb2 := hX2.lt
      have f0' : w4.cell? ⟨nb, 0, none⟩ = some (.map (some tb)) := grown_cell hg4 e0 (by simpa using hne)
      have f7 : w4.cell? ⟨w2.heap.size, 0, none⟩ = some (.string c) := grown_cell hg4 hnew (fun e => by have := Option.some.inj e; omega)
      have hT4 : w4.ownsMap Ybad.prog 9 (plainElem Ybad.prog 4) tb nt T := World.ownsMap.kept (w := (w2.alloc (Obj.cells #[.string c, .int .i64 (1 + (t.size : Int) - 1)] 34)).drewN (nq + 1)) hT3 hg4 (by simpa using htx)
      have hg5 : w.grownBy w4 (some xb) := (grown_drewN hg3 (nq + 1)).andThen hg4 (fun j hj => .inr hj)
      have hxs : (c ++ ({ data := #[95] } ++ t)).size ≤ 5000 := by rw [ByteArray.size_append, ByteArray.size_append]; show c.size + (1 + t.size) ≤ 5000; omega
      have hlk2 := taken_look hT4 hTL (c ++ ({ data := #[95] } ++ t)) (by unfold maxLen; omega)
      rw [show (c ++ ({ data := #[95] } ++ t)).data.toList = Plain.cand s k from hx] at hlk2
      rw [HST.out, HT.out] at hN4
      clear hlk
      by_cases hkl : k < K
      · have hmem := HK.out.2.2 k hk2 hkl
        rw [decide_eq_true hmem] at hlk2
        have HI2 : Hid (Plain.Inv (Plain.upd f (Plain.stemOf s (nDigits k)) (nDigits k) (k + 1)) L) := Plain.store HIr.out (fun _ h => h) hk2 (fun j h2 hj => HK.out.2.2 j h2 (by omega)) hmem
        clear hmem
        go_region
        go_wp2
        go_roundw
        case rel => exact ⟨k + 1, n + 1, N', _, by omega, by omega, by go_num, by omega, hX4, hN4, HI2, hg5⟩
        case measure => simp [intOf]; omega
      · obtain rfl : k = K := by omega
        rw [decide_eq_false HK.out.2.1] at hlk2
        have HI2 : Hid (Plain.Inv (Plain.upd f (Plain.stemOf s (nDigits k)) (nDigits k) (k + 1)) (L ++ [Plain.cand s k])) := Plain.store HIr.out (fun _ h => List.mem_append.2 (.inl h)) hk2 (fun j h2 hj => HK.out.2.2 j h2 hj) (by simp)
        go_region
        go_wp2
        go_ret
        exact ⟨_, N', _, n + 1, rfl, hx, hxs, hg5, hX4, by omega, hN4, HI2.out, Plain.upd_same _ _ _ _⟩
end Go.Proofs.YbulklrcDoor
