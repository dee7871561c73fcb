/-
  The two maps of a Namer: a struct of a string and an int as a key; looking up and storing.
-/
import Derived.Test.YbulklrcDoorModel
import Derived.Maps.OwnOps
import Derived.Maps.OwnSet
import Derived.DeepKeys4
namespace Go.Proofs.YbulklrcDoor
open Go.ChangeShapes Go.WideShapes Go.ChangeAt Go.RowKit Go.Maps
set_option linter.unusedVariables false
open Go.Lib (decDigits nDigits)
theorem laidOut : laidOutB Ybad.prog = true := by kernel_rfl
theorem law34 : Keyed Ybad.prog 34 := Keyed.of_law (deep_law_laid laidOut (m := 5) (by decide) (of_decide_eq_true (by kernel_rfl)) (by kernel_rfl) (by kernel_rfl))
theorem law9 : Keyed Ybad.prog 9 := string_keyed Ybad.underlying9
theorem zero3 (w : World) : (zeroValue 3).run Ybad.prog w = .ok (.int .i64 0) w := by kernel_rfl
theorem zero4 (w : World) : (zeroValue 4).run Ybad.prog w = .ok (.bool false) w := by kernel_rfl

/-- A stem as a key reads. -/
def stemKey (p : List UInt8) (d : Nat) : Lit := .string (keyBytes [.string p, .int .i64 d])
theorem keyType34 : Ybad.prog.keyType 34 = true := by kernel_rfl
theorem cells34 : Ybad.prog.cellsOf 34 = 2 := by kernel_rfl
theorem cells9 : Ybad.prog.cellsOf 9 = 1 := by kernel_rfl
theorem cells3 : Ybad.prog.cellsOf 3 = 1 := by kernel_rfl
theorem two_types : ∃ n, Ybad.prog.types.size = n + 1 := ⟨Ybad.prog.types.size - 1, by have : decide (1 ≤ Ybad.prog.types.size) = true := by kernel_rfl
                                                                                       have := of_decide_eq_true this
                                                                                       omega⟩
theorem keyOf_stem (p : ByteArray) (d : Nat) (hp : p.size ≤ maxLen) (hd : d ≤ 1000) : keyOf Ybad.prog 34 (.agg #[.string p, .int .i64 d]) = some (stemKey p.data.toList d) := by
  have hw : (Lit.int .i64 (d : Int)).wf = true := WalkArith.wf_i64 (by omega)
  obtain ⟨n, hn⟩ := two_types
  unfold keyOf
  rw [Ybad.underlying34]
  simp only [keyType34, Value.formed, Ybad.underlying34, cells34]
  rw [hn]
  simp [Program.keyLits, Ybad.underlying34, Ybad.underlying9, Ybad.underlying3, cells34, cells9, cells3, Value.cells, hp, hw, stemKey]

theorem stemKey_inj {p p' : List UInt8} {d d' : Nat} (hp : p.length ≤ 10000) (hp' : p'.length ≤ 10000) (hd : d ≤ 1000) (hd' : d' ≤ 1000) (h : stemKey p d = stemKey p' d') : p = p' ∧ d = d' := by
  have h1 := keyOf_stem (ba p) d (by rw [ba_size]; unfold maxLen; omega) hd
  have h2 := keyOf_stem (ba p') d' (by rw [ba_size]; unfold maxLen; omega) hd'
  rw [data_ba] at h1 h2
  rw [← h] at h2
  have e := law34.inj h1 h2
  simp only [Value.agg.injEq, Array.mk.injEq, List.cons.injEq, Value.string.injEq, Value.int.injEq, true_and, and_true] at e
  exact ⟨by have := congrArg (fun b : ByteArray => b.data.toList) e.1; simpa [data_ba] using this, by omega⟩

/-- The set of taken names; the map 'next'. -/
def IsTaken (T : DataW Unit) (L : List (List UInt8)) : Prop := IsMap T ∧ ∀ x : List UInt8, T.atKey (.string x) (.lit (.bool false)) = .lit (.bool (decide (x ∈ L)))
def IsNext (N : DataW Unit) (f : List UInt8 → Nat → Nat) : Prop := IsMap N ∧ ∀ (p : List UInt8) (d : Nat), p.length ≤ 10000 → d ≤ 1000 → N.atKey (stemKey p d) (.lit (.int .i64 0)) = .lit (.int .i64 (f p d))
theorem taken_start : IsTaken (.map []) [] := ⟨isMap_empty, fun x => by simp [DataW.atKey]⟩
theorem next_start : IsNext (.map []) (fun _ _ => 0) := ⟨isMap_empty, fun p d _ _ => by simp [DataW.atKey]⟩
theorem IsTaken.put {T : DataW Unit} {L : List (List UInt8)} (h : IsTaken T L) (x : List UInt8) : IsTaken (T.put (.string x) (.lit (.bool true))) (L ++ [x]) := by
  refine ⟨h.1.put _ _, fun y => ?_⟩
  by_cases hy : y = x
  · subst hy
    rw [atKey_put_same h.1 (k := .string y) trivial]
    simp
  · rw [atKey_put_other (by simpa using hy), h.2 y]
    simp [hy]
theorem IsNext.put {N : DataW Unit} {f : List UInt8 → Nat → Nat} (h : IsNext N f) {p : List UInt8} {d : Nat} (m : Nat) (hp : p.length ≤ 10000) (hd : d ≤ 1000) : IsNext (N.put (stemKey p d) (.lit (.int .i64 (m : Int)))) (Plain.upd f p d m) := by
  refine ⟨h.1.put _ _, fun p' d' hp' hd' => ?_⟩
  by_cases hy : p' = p ∧ d' = d
  · obtain ⟨rfl, rfl⟩ := hy
    rw [atKey_put_same h.1 (k := stemKey p' d') trivial, Plain.upd_same]
  · rw [atKey_put_other (fun e => hy (stemKey_inj hp' hp hd' hd e)), h.2 p' d' hp' hd']
    simp [Plain.upd, hy]
theorem size_len {c : ByteArray} {n : Nat} (h : c.size ≤ n) : c.data.toList.length ≤ n := by
  rw [Array.length_toList]
  exact h
theorem plainElem_bool_inv {v : Value} {z : DataW Unit × List MemPlace} (h : plainElem Ybad.prog 4 v = some z) : ∃ x, v = .bool x ∧ z = (.lit (.bool x), []) := by
  unfold plainElem at h
  rw [Ybad.underlying4] at h
  cases v <;> simp at h
  exact ⟨_, rfl, h.symm⟩
theorem taken_look {w : World} {tb n : Nat} {T : DataW Unit} {L : List (List UInt8)} (hown : w.ownsMap Ybad.prog 9 (plainElem Ybad.prog 4) tb n T) (hT : IsTaken T L) (x : ByteArray) (hx : x.size ≤ maxLen) :
    (Instr.lookup 24 (.map (some tb)) (.string x) false).run Ybad.prog w = .ok (.bool (decide (x.data.toList ∈ L))) w := by
  obtain ⟨v, ps, hrun, hR⟩ := hown.lookup law9 Ybad.underlying24 (zero4 w) (plainElem_bool Ybad.underlying4 false) (WideMaps.keyOf_string_mk Ybad.underlying9 hx)
  obtain ⟨b, rfl, hb⟩ := plainElem_bool_inv hR
  rw [hT.2] at hb
  simp at hb
  rw [hrun, hb.1]
theorem next_look {w : World} {xb n : Nat} {N : DataW Unit} {f : List UInt8 → Nat → Nat} (hown : w.ownsMap Ybad.prog 34 (plainElem Ybad.prog 3) xb n N) (hN : IsNext N f) (c : ByteArray) (e : Int) (d : Nat) (he : e = d) (hc : c.size ≤ 10000) (hd : d ≤ 1000) :
    (Instr.lookup 25 (.map (some xb)) (.agg #[.string c, .int .i64 e]) false).run Ybad.prog w = .ok (.int .i64 (f c.data.toList d)) w := by
  subst he
  obtain ⟨v, hrun, hat, _⟩ := hown.lookup_int law34 Ybad.underlying25 Ybad.underlying3 (zero3 w) (keyOf_stem c d (by unfold maxLen; omega) hd)
  rw [hN.2 _ d (size_len hc) hd] at hat
  simp at hat
  rw [hrun, hat]
theorem next_store {w : World} {xb n : Nat} {N : DataW Unit} {f : List UInt8 → Nat → Nat} (hown : w.ownsMap Ybad.prog 34 (plainElem Ybad.prog 3) xb n N) (hN : IsNext N f) (c : ByteArray) (e : Int) (d : Nat) (he : e = d) (hc : c.size ≤ 10000) (hd : d ≤ 1000) (hn : n < maxLen) (v : Int) (m : Nat) (hv : v = m) (hm : m ≤ 100000) :
    ∃ w' N', (Instr.mapUpdate 25 (.map (some xb)) (.agg #[.string c, .int .i64 e]) (.int .i64 v)).run Ybad.prog w = .ok () w' ∧ w'.ownsMap Ybad.prog 34 (plainElem Ybad.prog 3) xb (n + 1) N' ∧ IsNext N' (Plain.upd f c.data.toList d m) ∧ w.grownBy w' (some xb) := by
  subst he hv
  obtain ⟨w', hrun, hown', hg⟩ := hown.update law34 Ybad.underlying25 hn (keyOf_stem c d (by unfold maxLen; omega) hd) (plainElem_int Ybad.underlying3 (WalkArith.wf_i64 (n := (m : Int)) (by omega)))
  exact ⟨w', _, hrun, hown', hN.put m (size_len hc) hd, hg⟩
theorem taken_store {w : World} {tb n : Nat} {T : DataW Unit} {L : List (List UInt8)} (hown : w.ownsMap Ybad.prog 9 (plainElem Ybad.prog 4) tb n T) (hT : IsTaken T L) (x : ByteArray) (hx : x.size ≤ maxLen) (hn : n < maxLen) :
    ∃ w' T', (Instr.mapUpdate 24 (.map (some tb)) (.string x) (.bool true)).run Ybad.prog w = .ok () w' ∧ w'.ownsMap Ybad.prog 9 (plainElem Ybad.prog 4) tb (n + 1) T' ∧ IsTaken T' (L ++ [x.data.toList]) ∧ w.grownBy w' (some tb) := by
  obtain ⟨w', hrun, hown', hg⟩ := hown.update law9 Ybad.underlying24 hn (WideMaps.keyOf_string_mk Ybad.underlying9 hx) (plainElem_bool Ybad.underlying4 true)
  exact ⟨w', _, hrun, hown', hT.put _, hg⟩
end Go.Proofs.YbulklrcDoor
