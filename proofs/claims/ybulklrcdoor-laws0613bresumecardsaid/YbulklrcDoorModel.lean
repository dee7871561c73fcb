/-
  strconv.Itoa's contract in this program's words; 'zzs0613bmodel' (function 6), walked: it answers the first candidate that is not taken, and its number.
-/
import Derived.Test.YbulklrcDoorCut
import Derived.Test.YbulklrcDoorShelf
namespace Go.Proofs.YbulklrcDoor
open Go.ChangeShapes Go.WideShapes Go.ChangeAt Go.RowKit
set_option linter.unusedVariables false
open Go.Lib (decDigits nDigits)

/-- The table that strconv.Itoa reads. -/
def Tab (w : World) : Prop := Lib.TabIs Ybad.prog w Ybad.pow10Name .u64 Lib.pow10Tab
theorem glob : Ybad.prog.globalNamed Ybad.pow10Name = some 0 := by kernel_rfl
theorem Tab.lt {w : World} (h : Tab w) : 0 < w.heap.size :=
  World.block_lt_of_cell? w ⟨0, 0, none⟩ (Lib.TabIs.cell h glob 0 (by rw [Lib.pow10Tab_length]; decide))
theorem Tab.below {B : Nat} {w w' : World} (h : Tab w) (hb : Below B w w') (hB : w.heap.size ≤ B) : Tab w' :=
  var?_below hb glob (Nat.lt_of_lt_of_le h.lt hB) h
theorem below_grow (w : World) (k : Nat) (os : Array Obj) : Below w.heap.size w (Sort.grow (w.drewN k) os) :=
  ⟨rfl, rfl, rfl, by simp [Sort.grow], fun i hi => by
    show (w.heap ++ os)[i]? = _
    rw [Array.getElem?_append_left hi]⟩
theorem StrSlice.below {w w' : World} {a : Option Addr} {len : Nat} {ss : List ByteArray} (h : StrSlice w a len ss) (hb : Below w.heap.size w w') : StrSlice w' a len ss := by
  refine ⟨h.1, fun h0 => ?_⟩
  obtain ⟨b, off, ha, hc⟩ := h.2 h0
  exact ⟨b, off, ha, fun k hk => (hb.cell (p := ⟨b, off + k, none⟩) (World.block_lt_of_cell? w _ (hc k hk))).trans (hc k hk)⟩

/-- t is k's numeral; c is s, cut; x is 'name_k', cut. Kept behind names, so that the walk does not look into them. -/
def IsDec (t : ByteArray) (k : Nat) : Prop := t = ba (decDigits k)
def IsCut (c s : ByteArray) (m : Nat) : Prop := c = ba (Plain.cut s m)
def IsCand (x s : ByteArray) (k : Nat) : Prop := x.data.toList = Plain.cand s k

theorem itoa_any (k : Nat) (hk : k < 1000) (w : World) (htab : Tab w) :
    Calls Ybad.prog 7 #[.int .i64 k] w fun e w' => ∃ t, e = .returned (.string t) ∧ IsDec t k ∧ t.size = nDigits k ∧ 1 ≤ t.size ∧ t.size ≤ 3 ∧ Below w.heap.size w w' := by
  refine (Ybad.strconv_Itoa k (by omega) (by omega) w htab).mono ?_
  rintro e w' ⟨rfl, q, os, rfl⟩
  have h1 : Lib.itoa (k : Int) = decDigits k := by simp [Lib.itoa]
  have h2 : (ba (decDigits k)).size = nDigits k := by rw [ba_size, Lib.decDigits_length]
  have h3 := Plain.nDigits_three hk
  have h4 := Lib.nDigits_pos k
  exact ⟨ba (decDigits k), by rw [h1]; rfl, rfl, h2, by omega, by omega, below_grow w q os⟩
theorem bcut_int (s : ByteArray) (m : Int) (h0 : 0 ≤ m) (hm : m ≤ 60) (w : World) (hs : s.size ≤ 4096) :
    Calls Ybad.prog 8 #[.string s, .int .i64 m] w fun e w' => ∃ c, e = .returned (.string c) ∧ IsCut c s m.toNat ∧ c.size ≤ 4096 ∧ Below w.heap.size w w' := by
  obtain ⟨n, rfl⟩ := Int.eq_ofNat_of_zero_le h0
  refine (bcut_any s n w hs (by omega)).mono ?_
  rintro e w' ⟨rfl, hb⟩
  exact ⟨_, rfl, rfl, by rw [ba_size]; exact Nat.le_trans (Plain.cut_length s n) hs, hb⟩
theorem cutName_int (s : ByteArray) (m : Int) (h0 : 0 ≤ m) (hm : m ≤ 60) (w : World) (hs : s.size ≤ 4096) :
    Calls Ybad.prog 9 #[.string s, .int .i64 m] w fun e w' => ∃ c, e = .returned (.string c) ∧ IsCut c s m.toNat ∧ c.size ≤ 4096 ∧ Below w.heap.size w w' := by
  obtain ⟨n, rfl⟩ := Int.eq_ofNat_of_zero_le h0
  refine (cutName_any s n w hs (by omega)).mono ?_
  rintro e w' ⟨rfl, hb⟩
  exact ⟨_, rfl, rfl, by rw [ba_size]; exact Nat.le_trans (Plain.cut_length s n) hs, hb⟩
theorem has_true {a : Option Addr} {len cap : Nat} {ss : List ByteArray} {x s : ByteArray} {k : Nat} {w : World} (hS : StrSlice w a len ss) (hl : len ≤ 1000) (hx : IsCand x s k) (hm : Plain.cand s k ∈ tl ss) :
    Calls Ybad.prog 10 #[.slice a len cap, .string x] w fun e w' => e = .returned (.bool true) ∧ w' = w := by
  have h := has_any a len cap ss x w hS hl
  rw [show x.data.toList = Plain.cand s k from hx] at h
  simpa [hm] using h
theorem has_false {a : Option Addr} {len cap : Nat} {ss : List ByteArray} {x s : ByteArray} {k : Nat} {w : World} (hS : StrSlice w a len ss) (hl : len ≤ 1000) (hx : IsCand x s k) (hm : Plain.cand s k ∉ tl ss) :
    Calls Ybad.prog 10 #[.slice a len cap, .string x] w fun e w' => e = .returned (.bool false) ∧ w' = w := by
  have h := has_any a len cap ss x w hS hl
  rw [show x.data.toList = Plain.cand s k from hx] at h
  simpa [hm] using h
theorem isCand_mk {c t s : ByteArray} {k : Nat} {m : Int} (hc : IsCut c s m.toNat) (ht : IsDec t k) (hm : m = 60 - (1 + (nDigits k : Int))) : IsCand (c ++ ({ data := #[95] } ++ t)) s k := by
  unfold IsCut at hc
  unfold IsDec at ht
  subst hc ht
  unfold IsCand Plain.cand Plain.stemOf Plain.suf
  rw [show m.toNat = 59 - nDigits k by omega]
  simp [ba]

set_option maxRecDepth 100000 in
set_option maxHeartbeats 1000000 in
theorem model_any (s : ByteArray) (a : Option Addr) (len cap K : Nat) (ss : List ByteArray) (w : World) (hS : StrSlice w a len ss) (hs : s.size ≤ 4096) (hl : len ≤ 600) (htab : Tab w)
    (hK : Plain.IsFirst s (tl ss) K) (hKl : K ≤ len + 2) :
    Calls Ybad.prog 6 #[.string s, .slice a len cap] w fun e w' => ∃ x, e = .returned (.tuple #[.string x, .int .i64 K]) ∧ IsCand x s K ∧ x.size ≤ 5000 ∧ Below w.heap.size w w' := by
  have hK2 := hK.1
  have HK : Hid (Plain.IsFirst s (tl ss) K) := hK
  clear hK
  go_enter Ybad.func6, Ybad.ntmps6
  go_wp2
  go_loopw [6] (fun i wr => ∃ k : Nat, 2 ≤ k ∧ k ≤ K ∧ i = .int .i64 k ∧ Below w.heap.size w wr) (fun i _ => K + 1 - (intOf i).toNat)
  case atStart => exact ⟨2, Nat.le_refl _, hK2, rfl, Below.refl _ _⟩
  case round =>
    obtain ⟨k, hk2, hkK, rfl, hnx⟩ := hrel
    have hT : Tab wr := htab.below hnx (Nat.le_refl _)
    have hsz := hnx.size
    go_wp2_with fail
    refine (itoa_any k (by omega) wr hT).mono ?_
    rintro e w1 ⟨t, rfl, hd, hts, ht1, ht3, hb1⟩
    have HT : Hid (t.size = nDigits k) := hts
    clear hts
    go_wp2_with fail
    refine (bcut_int s _ (by omega) (by omega) w1 hs).mono ?_
    rintro e w2 ⟨c, rfl, hc, hcs, hb2⟩
    have hx := isCand_mk hc hd (by rw [HT.out])
    go_wp2_with fail
    have hB2 : Below w.heap.size w w2 := (hnx.trans (hb1.mono hsz)).trans (hb2.mono (Nat.le_trans hsz hb1.size))
    have hS2 := hS.below hB2
    by_cases hkl : k < K
    · refine (has_true hS2 (by omega) hx (HK.out.2.2 k hk2 hkl)).mono ?_
      rintro e w3 ⟨rfl, rfl⟩
      go_wp2
      go_roundw
      case rel => exact ⟨k + 1, by omega, by omega, by go_num, hB2⟩
      case measure => simp [intOf]; omega
    · obtain rfl : k = K := by omega
      refine (has_false hS2 (by omega) hx HK.out.2.1).mono ?_
      rintro e w3 ⟨rfl, rfl⟩
      go_wp2
      go_ret2
      exact ⟨_, rfl, hx, by rw [ByteArray.size_append, ByteArray.size_append]; show c.size + (1 + t.size) ≤ 5000; omega, hB2⟩
end Go.Proofs.YbulklrcDoor
