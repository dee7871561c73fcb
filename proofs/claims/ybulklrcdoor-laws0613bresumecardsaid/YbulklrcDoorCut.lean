/-
  'zzs0613bcut' (function 8), 'cutName' (9), 'zzs0613bhas' (10), walked.
-/
import Derived.Test.YbulklrcDoorRows
import Derived.Test.YbulklrcDoorPlain
import Derived.WalkKit
import Derived.ProofKit
import Derived.OpenShut
import Derived.ShutString
import Derived.WalkSpells
import Derived.WalkLawsBesides
import Derived.Laws.RangeString
import Derived.Laws.RangeAny
import Derived.LoopTactic
import Derived.Lib.Strings
namespace Go.Proofs.YbulklrcDoor
open Go.ChangeShapes Go.WideShapes Go.ChangeAt Go.RowKit
set_option linter.unusedVariables false

/-- A list of bytes as a string. -/
def ba (l : List UInt8) : ByteArray := ⟨l.toArray⟩
theorem ba_data (s : ByteArray) : ba s.data.toList = s := by cases s; simp [ba]
theorem data_ba (l : List UInt8) : (ba l).data.toList = l := by simp [ba]
theorem ba_size (l : List UInt8) : (ba l).size = l.length := by simp [ba, ByteArray.size]
theorem extract_ba (s : ByteArray) (i : Nat) : s.extract 0 i = ba (s.data.toList.take i) := by
  rw [← ba_data (s.extract 0 i), Lib.extract_data]
  simp

theorem ret_str {a b : ByteArray} (h : a = b) : Ending.returned (.string a) = .returned (.string b) := by rw [h]
theorem cut_mid {s : ByteArray} {pos n : Nat} (h : pos = Plain.cutPos s (s.size + 1) 0 n) : s.extract 0 pos = ba (Plain.cut s n) := by
  rw [extract_ba, Plain.cut, ← h]
theorem cut_end {s : ByteArray} {n : Nat} (h : s.size = Plain.cutPos s (s.size + 1) 0 n) : s = ba (Plain.cut s n) := by
  have h1 : Plain.cut s n = s.data.toList := by
    unfold Plain.cut
    rw [← h]
    exact List.take_of_length_le (by simp)
  rw [h1, ba_data]
theorem Plain.cutPos_end (s : ByteArray) (fuel pos n : Nat) (h : ¬ pos < s.size) : Plain.cutPos s fuel pos n = s.size := by
  cases fuel <;> simp [Plain.cutPos, h]

set_option maxRecDepth 100000 in
set_option maxHeartbeats 1000000 in
theorem bcut_any (s : ByteArray) (n : Nat) (w : World) (hs : s.size ≤ 4096) (hn : n ≤ 60) :
    Calls Ybad.prog 8 #[.string s, .int .i64 n] w fun e w' => e = .returned (.string (ba (Plain.cut s n))) ∧ Below w.heap.size w w' := by
  go_enter Ybad.func8, Ybad.ntmps8
  go_wp2
  go_loopw [5] (fun c w' => ∃ (pos fuel k : Nat), w' = w.iter s pos ∧ c = .int .i64 k ∧ k ≤ n ∧ Plain.cutPos s fuel pos (n - k) = Plain.cutPos s (s.size + 1) 0 n ∧ s.size < pos + fuel) (fun _ w' => s.size - w'.iterPos w.heap.size)
  case atStart => exact ⟨0, s.size + 1, 0, rfl, rfl, Nat.zero_le _, by simp, by omega⟩
  case round =>
    obtain ⟨pos, fuel, k, rfl, rfl, hk, hcp, hfu⟩ := hrel
    by_cases hp : pos < s.size
    · have hnx : ∀ ty, (Instr.next (.pointer (some ⟨w.heap.size, 0, none⟩)) true ty).run Ybad.prog (w.iter s pos) = _ := fun ty => run_next_any w s pos ty hp
      have hwd := Lib.decode_width_pos s pos hp
      obtain ⟨f, rfl⟩ : ∃ f, fuel = f + 1 := ⟨fuel - 1, by omega⟩
      unfold Plain.cutPos at hcp
      rw [if_pos hp] at hcp
      by_cases hkn : k = n
      · have hb : ((k : Int) == (n : Int)) = true := by simp [hkn]
        rw [if_pos (by omega)] at hcp
        have HC : Hid (pos = Plain.cutPos s (s.size + 1) 0 n) := hcp
        clear hcp
        go_wp2
        go_ret
        exact ⟨ret_str (cut_mid HC.out), (Below.refl _ _).alloc (Nat.le_refl _) _⟩
      · have hb : ((k : Int) == (n : Int)) = false := by simp; omega
        rw [if_neg (by omega)] at hcp
        have HC : Hid (Plain.cutPos s f (pos + (Utf8.decode s pos).2) (n - k - 1) = Plain.cutPos s (s.size + 1) 0 n) := hcp
        clear hcp
        go_wp2
        go_roundw
        case rel => exact ⟨pos + (Utf8.decode s pos).2, f, k + 1, rfl, by go_num, by omega, by rw [show n - (k + 1) = n - k - 1 by omega]; exact HC.out, by omega⟩
        case measure => simp; omega
    · have hnx : ∀ ty, (Instr.next (.pointer (some ⟨w.heap.size, 0, none⟩)) true ty).run Ybad.prog (w.iter s pos) = _ := fun ty => run_next_end w s pos ty hp
      have HC : Hid (s.size = Plain.cutPos s (s.size + 1) 0 n) := by rw [Plain.cutPos_end s _ _ _ hp] at hcp; exact hcp
      clear hcp
      go_wp2
      go_ret
      exact ⟨ret_str (cut_end HC.out), (Below.refl _ _).alloc (Nat.le_refl _) _⟩

set_option maxRecDepth 100000 in
set_option maxHeartbeats 1000000 in
theorem cutName_any (s : ByteArray) (n : Nat) (w : World) (hs : s.size ≤ 4096) (hn : n ≤ 60) :
    Calls Ybad.prog 9 #[.string s, .int .i64 n] w fun e w' => e = .returned (.string (ba (Plain.cut s n))) ∧ Below w.heap.size w w' := by
  go_enter Ybad.func9, Ybad.ntmps9
  go_wp2
  go_loopw [1] (fun c w' => ∃ (pos fuel m : Nat), w' = w.iter s pos ∧ c = .int .i64 m ∧ m ≤ n ∧ Plain.cutPos s fuel pos m = Plain.cutPos s (s.size + 1) 0 n ∧ s.size < pos + fuel) (fun _ w' => s.size - w'.iterPos w.heap.size)
  case atStart => exact ⟨0, s.size + 1, n, rfl, rfl, Nat.le_refl _, rfl, by omega⟩
  case round =>
    obtain ⟨pos, fuel, m, rfl, rfl, hm, hcp, hfu⟩ := hrel
    by_cases hp : pos < s.size
    · have hnx : ∀ ty, (Instr.next (.pointer (some ⟨w.heap.size, 0, none⟩)) true ty).run Ybad.prog (w.iter s pos) = _ := fun ty => run_next_any w s pos ty hp
      have hwd := Lib.decode_width_pos s pos hp
      obtain ⟨f, rfl⟩ : ∃ f, fuel = f + 1 := ⟨fuel - 1, by omega⟩
      unfold Plain.cutPos at hcp
      rw [if_pos hp] at hcp
      by_cases hkn : m = 0
      · have hb : ((m : Int) == 0) = true := by simp [hkn]
        rw [if_pos (by omega)] at hcp
        have HC : Hid (pos = Plain.cutPos s (s.size + 1) 0 n) := hcp
        clear hcp
        go_wp2
        go_ret
        exact ⟨ret_str (cut_mid HC.out), (Below.refl _ _).alloc (Nat.le_refl _) _⟩
      · have hb : ((m : Int) == 0) = false := by simp; omega
        rw [if_neg (by omega)] at hcp
        have HC : Hid (Plain.cutPos s f (pos + (Utf8.decode s pos).2) (m - 1) = Plain.cutPos s (s.size + 1) 0 n) := hcp
        clear hcp
        go_wp2
        go_roundw
        case rel => exact ⟨pos + (Utf8.decode s pos).2, f, m - 1, rfl, by go_num, by omega, HC.out, by omega⟩
        case measure => simp; omega
    · have hnx : ∀ ty, (Instr.next (.pointer (some ⟨w.heap.size, 0, none⟩)) true ty).run Ybad.prog (w.iter s pos) = _ := fun ty => run_next_end w s pos ty hp
      have HC : Hid (s.size = Plain.cutPos s (s.size + 1) 0 n) := by rw [Plain.cutPos_end s _ _ _ hp] at hcp; exact hcp
      clear hcp
      go_wp2
      go_ret
      exact ⟨ret_str (cut_end HC.out), (Below.refl _ _).alloc (Nat.le_refl _) _⟩

def tl (ss : List ByteArray) : List (List UInt8) := ss.map fun s => s.data.toList
/-- A slice of strings: its elements; where there is one, the cells. -/
def StrSlice (w : World) (a : Option Addr) (len : Nat) (ss : List ByteArray) : Prop :=
  ss.length = len ∧ (0 < len → ∃ b off, a = some ⟨b, off, none⟩ ∧ ∀ k, k < len → w.cell? ⟨b, off + k, none⟩ = some (.string (ss.getD k ByteArray.empty)))

theorem eq_yes {x y : ByteArray} (h : (y.toList == x.toList) = true) : y.data.toList = x.data.toList := by
  rw [← Lib.toList_data, ← Lib.toList_data]
  simpa using h
theorem eq_no {x y : ByteArray} (h : (y.toList == x.toList) = false) : y.data.toList ≠ x.data.toList := by
  rw [← Lib.toList_data, ← Lib.toList_data]
  simpa using h
theorem eq_of {x y : ByteArray} (h : y.data.toList = x.data.toList) : (y.toList == x.toList) = true := by
  rw [Lib.toList_data, Lib.toList_data]
  simpa using h
theorem ret_bool {a b : Bool} (h : a = b) : Ending.returned (.bool a) = .returned (.bool b) := by rw [h]
theorem has_yes {ss : List ByteArray} {x : ByteArray} {k : Nat} (hk : k < ss.length) (h : (ss.getD k ByteArray.empty).data.toList = x.data.toList) : true = decide (x.data.toList ∈ tl ss) := by
  symm
  rw [decide_eq_true_iff, ← h]
  unfold tl
  exact List.mem_map.2 ⟨_, by simp [List.getD, List.getElem?_eq_getElem hk], rfl⟩
theorem has_no {ss : List ByteArray} {x : ByteArray} (h : ∀ j, j < ss.length → (ss.getD j ByteArray.empty).data.toList ≠ x.data.toList) : false = decide (x.data.toList ∈ tl ss) := by
  symm
  rw [decide_eq_false_iff_not]
  intro hm
  obtain ⟨y, hy, he⟩ := List.mem_map.1 hm
  obtain ⟨j, hj, rfl⟩ := List.mem_iff_getElem.1 hy
  exact h j hj (by simpa [List.getD, List.getElem?_eq_getElem hj] using he)

set_option maxRecDepth 100000 in
set_option maxHeartbeats 1000000 in
theorem has_any (a : Option Addr) (len cap : Nat) (ss : List ByteArray) (x : ByteArray) (w : World) (hS : StrSlice w a len ss) (hl : len ≤ 1000) :
    Calls Ybad.prog 10 #[.slice a len cap, .string x] w fun e w' => e = .returned (.bool (decide (x.data.toList ∈ tl ss))) ∧ w' = w := by
  obtain ⟨hlen, hcc⟩ := hS
  by_cases h0 : len = 0
  · subst h0
    have HE : Hid (false = decide (x.data.toList ∈ tl ss)) := has_no (fun j hj => by omega)
    go_enter Ybad.func10, Ybad.ntmps10
    go_wp2
    refine wp_loop_rounds 1 ?_
    rw [rounds_succ]
    go_wp2
    go_ret
    exact ⟨ret_bool HE.out, rfl⟩
  · obtain ⟨b, off, rfl, hc'⟩ := hcc (by omega)
    have HC : Hid (∀ k, k < len → w.cell? ⟨b, off + k, none⟩ = some (.string (ss.getD k ByteArray.empty))) := hc'
    clear hc' hcc
    go_enter Ybad.func10, Ybad.ntmps10
    go_wp2
    go_loop [5] (fun i => ∃ k : Nat, k ≤ len ∧ i = .int .i64 k ∧ ∀ j, j < k → (ss.getD j ByteArray.empty).data.toList ≠ x.data.toList) (fun i => len - (intOf i).toNat)
    case atStart => exact ⟨0, Nat.zero_le _, rfl, fun j hj => by omega⟩
    case round =>
      obtain ⟨k, hk, rfl, hno⟩ := hrel
      have HN : Hid (∀ j, j < k → (ss.getD j ByteArray.empty).data.toList ≠ x.data.toList) := hno
      clear hno
      by_cases hlt : k < len
      · have hck := HC.out k hlt
        obtain ⟨y, hy⟩ : ∃ y, ss.getD k ByteArray.empty = y := ⟨_, rfl⟩
        rw [hy] at hck
        have HY : Hid (ss.getD k ByteArray.empty = y) := hy
        clear hy
        cases hxy : (y.toList == x.toList)
        · go_wp2
          go_round
          case rel =>
            refine ⟨k + 1, by omega, by go_num, fun j hj => ?_⟩
            by_cases hjk : j = k
            · rw [hjk, HY.out]; exact eq_no hxy
            · exact HN.out j (by omega)
          case measure => simp [intOf]; omega
        · go_wp2
          go_ret
          exact ⟨ret_bool (has_yes (k := k) (by omega) (by rw [HY.out]; exact eq_yes hxy)), rfl⟩
      · go_wp2
        go_ret
        exact ⟨ret_bool (has_no (fun j hj => HN.out j (by omega))), rfl⟩
end Go.Proofs.YbulklrcDoor
