/-
  What lives while LawS0613BResume runs: the namer's two maps and the list; each step of a round on it.
-/
import Derived.Test.YbulklrcDoorFree
import Derived.Laws.AppendOwn
import Derived.Laws.MakeOwn
import Derived.Lib.QuietBelow
namespace Go.Proofs.YbulklrcDoor.lawS0613BResume
open Go.ChangeShapes Go.WideShapes Go.ChangeAt Go.RowKit Go.Maps
set_option linter.unusedVariables false
open Go.Lib (decDigits nDigits)

theorem info9 : (Ybad.prog.info? 9).map (fun i => (i.zero, i.size, i.bytes)) = some (some (.string ⟨#[]⟩), 1, 16) := by kernel_rfl
theorem make_list (n : Nat) (hn : n ≤ 1000) (w : World) :
    (Instr.makeSlice 22 (.int .i64 0) (.int .i64 (n : Int))).run Ybad.prog w = .ok (.slice (some ⟨w.heap.size, 0, none⟩) 0 n) (w.alloc (.cells (madeCells #[.string ⟨#[]⟩] n) 9)) := by
  obtain ⟨i, hi, hzz⟩ := Option.map_eq_some_iff.1 info9
  simp only [Prod.mk.injEq] at hzz
  obtain ⟨hz, hs, hb⟩ := hzz
  have hr := run_make (P := Ybad.prog) w 22 9 i (.string ⟨#[]⟩) Ybad.underlying22 hi hz .i64 .i64 0 n (by omega) (by omega) (by rw [hb]; omega) (by omega)
  simp only [Int.toNat_natCast, hs, Nat.mul_one] at hr
  exact hr

/-- Block lb is a row of C strings, the first of which are xs. -/
def Row (w : World) (lb C : Nat) (xs : List ByteArray) : Prop :=
  ∃ cur, w.heap[lb]? = some (.cells cur 9 (0, 0)) ∧ cur.size = C ∧ cur.toList.take xs.length = xs.map Value.string ∧ xs.length ≤ C
theorem row_made (w : World) (C : Nat) : Row (w.alloc (.cells (madeCells #[.string ⟨#[]⟩] C) 9)) w.heap.size C [] :=
  ⟨_, (MapKept.heap_alloc w _).1, size_madeCells _ _, rfl, Nat.zero_le _⟩
theorem Row.lt {w : World} {lb C : Nat} {xs : List ByteArray} (h : Row w lb C xs) : lb < w.heap.size := by
  obtain ⟨cur, hb, _⟩ := h
  exact (Array.getElem?_eq_some_iff.1 hb).1
theorem Row.kept {w w' : World} {lb C : Nat} {xs : List ByteArray} {row : Option Nat} (h : Row w lb C xs) (hg : w.grownBy w' row) (hne : some lb ≠ row) : Row w' lb C xs := by
  have hlt := h.lt
  obtain ⟨cur, hb, r⟩ := h
  exact ⟨cur, (hg.block lb hlt hne).trans hb, r⟩
theorem Row.slice {w : World} {lb C : Nat} {xs : List ByteArray} (h : Row w lb C xs) : StrSlice w (some ⟨lb, 0, none⟩) xs.length xs := by
  obtain ⟨cur, hb, hs, ht, hl⟩ := h
  refine ⟨rfl, fun _ => ⟨lb, 0, rfl, fun k hk => ?_⟩⟩
  have h1 : cur.toList[k]? = some (.string (xs.getD k ByteArray.empty)) := by
    have h2 := congrArg (fun l : List Value => l[k]?) ht
    simp only [List.getElem?_take, hk, if_true, List.getElem?_map, List.getElem?_eq_getElem hk, Option.map_some] at h2
    rw [h2]
    simp [List.getD, List.getElem?_eq_getElem hk]
  rw [cell_of_row w lb (0 + k) cur 9 (0, 0) hb, Nat.zero_add]
  simpa using h1
theorem row_append {w : World} {lb C m : Nat} {xs : List ByteArray} (h : Row w lb C xs) (hm : xs.length = m) (hC : m < C) (y : ByteArray) (ty : TypeId) :
    ∃ w', (Builtin.append_ #[22, 22] ty #[.slice (some ⟨lb, 0, none⟩) m C, .slice (some ⟨w.heap.size, 0, none⟩) 1 1]).run Ybad.prog (w.alloc (.cells #[.string y] 9)) = .ok (.slice (some ⟨lb, 0, none⟩) (m + 1) C) w' ∧ Row w' lb C (xs ++ [y]) ∧ w.grownBy w' (some lb) := by
  have hlt := h.lt
  obtain ⟨cur, hb, hs, ht, hl⟩ := h
  obtain ⟨i, hi, hzz⟩ := Option.map_eq_some_iff.1 info9
  simp only [Prod.mk.injEq] at hzz
  obtain ⟨hz, hs1, hby⟩ := hzz
  have hb' : (w.alloc (.cells #[.string y] 9)).heap[lb]? = some (.cells cur 9 (0, 0)) := (Below.heap_alloc _ _ _ hlt).trans hb
  have hrun := run_append_room (P := Ybad.prog) (w.alloc (.cells #[.string y] 9)) 22 ty 9 i Ybad.underlying22 hi lb m C cur hb' ⟨w.heap.size, 0, none⟩ 1 1 [.string y] (by simp [hs1]) (cell_one_new w _ _) (by simp [Value.oneCell']) (by omega) (by simp [hs1]; omega)
  refine ⟨_, hrun, ⟨_, setRow_heap _ _ _ _ _ _ hb', ?_, ?_, ?_⟩, ?_⟩
  · simp [hs1]; omega
  · rw [hs1, Nat.mul_one, ← hm, ht, List.map_append]
    exact List.take_left' (by simp)
  · simp; omega
  · refine ⟨rfl, rfl, rfl, by simp, fun k hk hne => ?_⟩
    rw [setRow_other _ _ _ _ (fun e => hne (by rw [e])), Below.heap_alloc _ _ _ hk]

/-- What lives while the law runs: the namer (its two maps), the list. -/
def Live (w wr : World) (C : Nat) (ys xs : List ByteArray) (n : Nat) (f : List UInt8 → Nat → Nat) : Prop :=
  ∃ T N : DataW Unit, wr.cell? ⟨w.heap.size + 1 + 1, 0, none⟩ = some (.map (some w.heap.size)) ∧ wr.cell? ⟨w.heap.size + 1 + 1, 1, none⟩ = some (.map (some (w.heap.size + 1))) ∧
    wr.ownsMap Ybad.prog 9 (plainElem Ybad.prog 4) w.heap.size ys.length T ∧ IsTaken T (tl ys) ∧ wr.ownsMap Ybad.prog 34 (plainElem Ybad.prog 3) (w.heap.size + 1) n N ∧ IsNext N f ∧ Row wr (w.heap.size + 1 + 1 + 1) C xs ∧ Below w.heap.size w wr
theorem Live.cells {w wr : World} {C n : Nat} {ys xs : List ByteArray} {f : List UInt8 → Nat → Nat} (h : Live w wr C ys xs n f) :
    wr.cell? ⟨w.heap.size + 1 + 1, 0, none⟩ = some (.map (some w.heap.size)) ∧ wr.cell? ⟨w.heap.size + 1 + 1, 1, none⟩ = some (.map (some (w.heap.size + 1))) := by
  obtain ⟨T, N, c0, c1, _⟩ := h
  exact ⟨c0, c1⟩
theorem Live.below {w wr : World} {C n : Nat} {ys xs : List ByteArray} {f : List UInt8 → Nat → Nat} (h : Live w wr C ys xs n f) : Below w.heap.size w wr := by
  obtain ⟨T, N, _, _, _, _, _, _, _, hB⟩ := h
  exact hB
theorem Live.row {w wr : World} {C n : Nat} {ys xs : List ByteArray} {f : List UInt8 → Nat → Nat} (h : Live w wr C ys xs n f) : Row wr (w.heap.size + 1 + 1 + 1) C xs := by
  obtain ⟨T, N, _, _, _, _, _, _, hR, _⟩ := h
  exact hR
theorem Live.size {w wr : World} {C n : Nat} {ys xs : List ByteArray} {f : List UInt8 → Nat → Nat} (h : Live w wr C ys xs n f) : w.heap.size + 1 + 1 + 1 < wr.heap.size := h.row.lt
theorem Live.drewN {w wr : World} {C n : Nat} {ys xs : List ByteArray} {f : List UInt8 → Nat → Nat} (h : Live w wr C ys xs n f) (q : Nat) : Live w (wr.drewN q) C ys xs n f := by
  obtain ⟨T, N, c0, c1, hT, hTy, hN, hNf, hR, hB⟩ := h
  exact ⟨T, N, c0, c1, hT, hTy, hN, hNf, hR, below_drewN hB q⟩
theorem Live.more {w wr w' : World} {C n : Nat} {ys xs : List ByteArray} {f : List UInt8 → Nat → Nat} (h : Live w wr C ys xs n f) (hb : Below wr.heap.size wr w') : Live w w' C ys xs n f := by
  have hg := grown_of_below hb
  obtain ⟨T, N, c0, c1, hT, hTy, hN, hNf, hR, hB⟩ := h
  exact ⟨T, N, grown_cell hg c0 (by simp), grown_cell hg c1 (by simp), hT.kept hg (by simp), hTy, hN.kept hg (by simp), hNf, hR.kept hg (by simp), hB.trans (hb.mono hB.size)⟩
/-- 'n.taken[y] = true'. -/
theorem Live.store {w wr : World} {C n : Nat} {ys xs : List ByteArray} {f : List UInt8 → Nat → Nat} (h : Live w wr C ys xs n f) (y : ByteArray) (hy : y.size ≤ maxLen) (hl : ys.length < 10000) :
    ∃ w', (Instr.mapUpdate 24 (.map (some w.heap.size)) (.string y) (.bool true)).run Ybad.prog wr = .ok () w' ∧ Live w w' C (ys ++ [y]) xs n f := by
  obtain ⟨T, N, c0, c1, hT, hTy, hN, hNf, hR, hB⟩ := h
  obtain ⟨w', T', hrun, hT', hTy', hg⟩ := taken_store hT hTy y hy (by unfold maxLen; omega)
  refine ⟨w', hrun, T', N, grown_cell hg c0 (fun e => by have := Option.some.inj e; omega), grown_cell hg c1 (fun e => by have := Option.some.inj e; omega), by simpa using hT', by simpa [tl] using hTy',
    hN.kept hg (fun e => by have := Option.some.inj e; omega), hNf, hR.kept hg (fun e => by have := Option.some.inj e; omega), hB.grown hg hB.size (fun j hj => by cases hj; exact Nat.le_refl _)⟩
/-- 'list = append(list, y)'. -/
theorem Live.append {w wr : World} {C n m : Nat} {ys xs : List ByteArray} {f : List UInt8 → Nat → Nat} (h : Live w wr C ys xs n f) (hm : xs.length = m) (hC : m < C) (y : ByteArray) (ty : TypeId) :
    ∃ w', (Builtin.append_ #[22, 22] ty #[.slice (some ⟨w.heap.size + 1 + 1 + 1, 0, none⟩) m C, .slice (some ⟨wr.heap.size, 0, none⟩) 1 1]).run Ybad.prog (wr.alloc (.cells #[.string y] 9)) = .ok (.slice (some ⟨w.heap.size + 1 + 1 + 1, 0, none⟩) (m + 1) C) w' ∧ Live w w' C ys (xs ++ [y]) n f := by
  obtain ⟨T, N, c0, c1, hT, hTy, hN, hNf, hR, hB⟩ := h
  obtain ⟨w', hrun, hR', hg⟩ := row_append hR hm hC y ty
  exact ⟨w', hrun, T, N, grown_cell hg c0 (fun e => by have := Option.some.inj e; omega), grown_cell hg c1 (fun e => by have := Option.some.inj e; omega), hT.kept hg (fun e => by have := Option.some.inj e; omega), hTy,
    hN.kept hg (fun e => by have := Option.some.inj e; omega), hNf, hR', hB.grown hg hB.size (fun j hj => by cases hj; omega)⟩
/-- 'n.free(name)'. -/
theorem Live.free {w wr : World} {C n K : Nat} {ys xs : List ByteArray} {f : List UInt8 → Nat → Nat} (h : Live w wr C ys xs n f) (htab : Tab w) (s : ByteArray) (hs : s.size ≤ 4096) (hI : Plain.Inv f (tl ys)) (hK : Plain.IsFirst s (tl ys) K) (hK6 : K ≤ 600) (hn : n ≤ 1000000) :
    Calls Ybad.prog 5 #[.pointer (some ⟨w.heap.size + 1 + 1, 0, none⟩), .string s] wr fun e w' => ∃ x n' f', e = .returned (.string x) ∧ IsCand x s K ∧ x.size ≤ 5000 ∧ Live w w' C ys xs n' f' ∧ n' ≤ n + 601 ∧ Hid (Plain.Inv f' (tl ys ++ [Plain.cand s K])) := by
  obtain ⟨T, N, c0, c1, hT, hTy, hN, hNf, hR, hB⟩ := h
  refine (free_any s (w.heap.size + 1 + 1) w.heap.size (w.heap.size + 1) ys.length n K T N (tl ys) f wr hs (htab.below hB (Nat.le_refl _)) c0 c1 hT hTy hN hNf hI (by omega) (by omega) hK hK6 (by unfold maxLen; omega)).mono ?_
  rintro e w' ⟨x, N', f', n', rfl, hx, hxs, hg, hN', hn', hNf', hI', _⟩
  exact ⟨x, n', f', rfl, hx, hxs, ⟨T, N', grown_cell hg c0 (fun e => by have := Option.some.inj e; omega), grown_cell hg c1 (fun e => by have := Option.some.inj e; omega), hT.kept hg (fun e => by have := Option.some.inj e; omega), hTy,
    hN', hNf', hR.kept hg (fun e => by have := Option.some.inj e; omega), hB.grown hg hB.size (fun j hj => by cases hj; exact Nat.le_succ _)⟩, hn', hI'⟩
/-- 'zzs0613bmodel(name, list)'. -/
theorem Live.model {w wr : World} {C n K m : Nat} {ys xs : List ByteArray} {f : List UInt8 → Nat → Nat} (h : Live w wr C ys xs n f) (htab : Tab w) (s : ByteArray) (hs : s.size ≤ 4096) (hm : xs.length = m) (hm6 : m ≤ 600) (hK : Plain.IsFirst s (tl xs) K) (hKl : K ≤ m + 2) :
    Calls Ybad.prog 6 #[.string s, .slice (some ⟨w.heap.size + 1 + 1 + 1, 0, none⟩) m C] wr fun e w' => ∃ x, e = .returned (.tuple #[.string x, .int .i64 K]) ∧ IsCand x s K ∧ Live w w' C ys xs n f := by
  subst hm
  refine (model_any s _ xs.length C K xs wr h.row.slice hs hm6 (htab.below h.below (Nat.le_refl _)) hK hKl).mono ?_
  rintro e w' ⟨x, rfl, hx, _, hb⟩
  exact ⟨x, rfl, hx, h.more hb⟩
/-- The start. -/
theorem live_start (w : World) (C : Nat) : Live w ((((w.alloc (.map #[] 0)).alloc (.map #[] 0)).alloc (.cells #[.map (some w.heap.size), .map (some (w.heap.size + 1))] 27)).alloc (.cells (madeCells #[.string ⟨#[]⟩] C) 9)) C [] [] 0 (fun _ _ => 0) := by
  have e1 : (w.alloc (.map #[] 0)).heap.size = w.heap.size + 1 := by simp
  have e2 : ((w.alloc (.map #[] 0)).alloc (.map #[] 0)).heap.size = w.heap.size + 1 + 1 := by simp
  have e3 : (((w.alloc (.map #[] 0)).alloc (.map #[] 0)).alloc (.cells #[.map (some w.heap.size), .map (some (w.heap.size + 1))] 27)).heap.size = w.heap.size + 1 + 1 + 1 := by simp
  have hc : ∀ j, (((w.alloc (.map #[] 0)).alloc (.map #[] 0)).alloc (.cells #[.map (some w.heap.size), .map (some (w.heap.size + 1))] 27)).cell? ⟨w.heap.size + 1 + 1, j, none⟩ = #[Value.map (some w.heap.size), .map (some (w.heap.size + 1))][j]? := fun j => by
    have h := (MapKept.heap_alloc ((w.alloc (.map #[] 0)).alloc (.map #[] 0)) (.cells #[.map (some w.heap.size), .map (some (w.heap.size + 1))] 27)).1
    rw [e2] at h
    simp only [World.cell?, h]
    rfl
  have hN := (World.ownsMap_made (H := Unit) (w.alloc (.map #[] 0)) Ybad.prog 34 (plainElem Ybad.prog 3))
  rw [e1] at hN
  have hR := row_made (((w.alloc (.map #[] 0)).alloc (.map #[] 0)).alloc (.cells #[.map (some w.heap.size), .map (some (w.heap.size + 1))] 27)) C
  rw [e3] at hR
  exact ⟨.map [], .map [], Lib.cell?_alloc_some _ (hc 0), Lib.cell?_alloc_some _ (hc 1), (((World.ownsMap_made (H := Unit) w Ybad.prog 9 (plainElem Ybad.prog 4)).alloc _).alloc _).alloc _, taken_start, (hN.alloc _).alloc _, next_start, hR,
    ((((Below.refl _ _).alloc (Nat.le_refl _) _).alloc (by simp) _).alloc (by simp; omega) _).alloc (by simp; omega) _⟩
end Go.Proofs.YbulklrcDoor.lawS0613BResume
