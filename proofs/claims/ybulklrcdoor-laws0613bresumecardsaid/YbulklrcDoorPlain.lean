/-
  THE PLAIN LAW: no Go in sight. Cutting a string to its first n runes; the candidate names 'name_2', 'name_3' ..; the first that is not taken; what the map 'next' says.
-/
import Derived.Lib.ItoaNum
import Derived.Lib.RuneCount
namespace Go.Proofs.YbulklrcDoor.Plain
open Go.Lib (decDigits nDigits)

/-! ### the cut -/
/-- The place of the cut: 'n' runes behind 'pos', or the string's end. -/
def cutPos (s : ByteArray) : Nat → Nat → Nat → Nat
  | 0, _, _ => s.size
  | fuel + 1, pos, n => if pos < s.size then (if n = 0 then pos else cutPos s fuel (pos + (Utf8.decode s pos).2) (n - 1)) else s.size
/-- The first n runes of s, as bytes. -/
def cut (s : ByteArray) (n : Nat) : List UInt8 := s.data.toList.take (cutPos s (s.size + 1) 0 n)
theorem cutPos_le (s : ByteArray) : ∀ fuel pos n, cutPos s fuel pos n ≤ s.size
  | 0, _, _ => Nat.le_refl _
  | f + 1, pos, n => by
    unfold cutPos
    split
    · split
      · omega
      · exact cutPos_le s f _ _
    · exact Nat.le_refl _
theorem cut_length (s : ByteArray) (n : Nat) : (cut s n).length ≤ s.size := by
  unfold cut
  rw [List.length_take]
  exact Nat.le_trans (Nat.min_le_left _ _) (cutPos_le s _ _ _)

/-! ### digits -/
theorem nDigits_mono : ∀ b a : Nat, a ≤ b → nDigits a ≤ nDigits b := by
  intro b
  induction b using Nat.strongRecOn with
  | _ b ih =>
    intro a hab
    by_cases hb : b < 10
    · rw [Lib.nDigits_small hb, Lib.nDigits_small (by omega : a < 10)]
      exact Nat.le_refl _
    · by_cases ha : a < 10
      · rw [Lib.nDigits_small ha]
        exact Lib.nDigits_pos b
      · rw [Lib.nDigits_big hb, Lib.nDigits_big ha]
        have := ih (b / 10) (by omega) (a / 10) (by omega)
        omega
theorem nDigits_three {k : Nat} (h : k < 1000) : nDigits k ≤ 3 := by
  have h1 : nDigits 999 = 3 := by rw [Lib.nDigits_big (by decide), Lib.nDigits_big (by decide), Lib.nDigits_small (by decide)]
  have := nDigits_mono 999 k (by omega)
  omega
theorem digit_toNat (d : Nat) (h : d < 10) : (UInt8.ofNat (48 + d)).toNat = 48 + d := by
  simp [UInt8.toNat_ofNat]
  omega
theorem no95 (u : Nat) : (95 : UInt8) ∉ decDigits u := by
  induction u using Nat.strongRecOn with
  | _ u ih =>
    rw [decDigits]
    have hd : ∀ d, d < 10 → (95 : UInt8) ≠ UInt8.ofNat (48 + d) := fun d hd e => by
      have := congrArg UInt8.toNat e
      rw [digit_toNat d hd] at this
      simp at this
      omega
    split
    · rename_i h
      simp only [List.mem_singleton]
      exact hd u h
    · rename_i h
      simp only [List.mem_append, List.mem_singleton, not_or]
      exact ⟨ih (u / 10) (by omega), hd (u % 10) (by omega)⟩
theorem decDigits_inj : ∀ a b : Nat, decDigits a = decDigits b → a = b := by
  intro a
  induction a using Nat.strongRecOn with
  | _ a ih =>
    intro b h
    have hl : nDigits a = nDigits b := by rw [← Lib.decDigits_length, ← Lib.decDigits_length, h]
    by_cases ha : a < 10
    · by_cases hb : b < 10
      · rw [decDigits, dif_pos ha, decDigits, dif_pos hb] at h
        have e := congrArg UInt8.toNat (List.cons.inj h).1
        rw [digit_toNat a ha, digit_toNat b hb] at e
        omega
      · rw [Lib.nDigits_small ha, Lib.nDigits_big hb] at hl
        have := Lib.nDigits_pos (b / 10)
        omega
    · by_cases hb : b < 10
      · rw [Lib.nDigits_small hb, Lib.nDigits_big ha] at hl
        have := Lib.nDigits_pos (a / 10)
        omega
      · rw [decDigits, dif_neg ha] at h
        conv at h => rhs; rw [decDigits, dif_neg hb]
        have hlen : (decDigits (a / 10)).length = (decDigits (b / 10)).length := by
          have := congrArg List.length h
          simp at this
          exact this
        obtain ⟨h1, h2⟩ := List.append_inj h hlen
        have e1 := ih (a / 10) (by omega) (b / 10) h1
        have e2 := congrArg UInt8.toNat (List.cons.inj h2).1
        rw [digit_toNat _ (by omega), digit_toNat _ (by omega)] at e2
        omega

/-! ### candidates -/
/-- "_k". -/
def suf (k : Nat) : List UInt8 := 95 :: decDigits k
theorem suf_length (k : Nat) : (suf k).length = nDigits k + 1 := by simp [suf, Lib.decDigits_length]
/-- What stands ahead of a suffix of so many digits. -/
def stemOf (s : ByteArray) (d : Nat) : List UInt8 := cut s (59 - d)
/-- 'name_k', cut. -/
def cand (s : ByteArray) (k : Nat) : List UInt8 := stemOf s (nDigits k) ++ suf k
theorem cand_length (s : ByteArray) (k : Nat) (hk : k < 1000) : (cand s k).length ≤ s.size + 4 := by
  have h1 := cut_length s (59 - nDigits k)
  have h2 := nDigits_three hk
  simp [cand, stemOf, suf_length]
  omega

theorem split_first : ∀ (a c b d : List UInt8), (95 : UInt8) ∉ a → (95 : UInt8) ∉ c → a ++ 95 :: b = c ++ 95 :: d → a = c
  | [], [], _, _, _, _, _ => rfl
  | [], x :: c, b, d, _, hc, h => by
    simp at h
    exact absurd (by simp [h.1]) hc
  | x :: a, [], b, d, ha, _, h => by
    simp at h
    exact absurd (by simp [h.1]) ha
  | x :: a, y :: c, b, d, ha, hc, h => by
    simp at h
    rw [h.1, split_first a c b d (fun hm => ha (by simp [hm])) (fun hm => hc (by simp [hm])) h.2]
theorem cand_inj (s : ByteArray) {a b : Nat} (h : cand s a = cand s b) : a = b := by
  unfold cand suf at h
  have h' := congrArg List.reverse h
  simp only [List.reverse_append, List.reverse_cons, List.append_assoc, List.singleton_append] at h'
  have := split_first _ _ _ _ (by simpa using no95 a) (by simpa using no95 b) h'
  exact decDigits_inj a b (List.reverse_inj.1 this)

/-! ### the first that is not taken -/
theorem pigeon (f : Nat → List UInt8) (hf : ∀ a b, f a = f b → a = b) : ∀ (n : Nat) (L : List (List UInt8)), L.length ≤ n → ∃ i, i ≤ n ∧ f i ∉ L
  | 0, L, h => ⟨0, Nat.le_refl _, by
      have : L = [] := List.eq_nil_of_length_eq_zero (by omega)
      simp [this]⟩
  | n + 1, L, h => by
    by_cases hm : f (n + 1) ∈ L
    · have hlt : (L.filter (fun x => decide (x ≠ f (n + 1)))).length < L.length := by
        have hle := List.length_filter_le (fun x => decide (x ≠ f (n + 1))) L
        rcases Nat.lt_or_eq_of_le hle with h1 | h1
        · exact h1
        · have := List.length_filter_eq_length_iff.1 h1 _ hm
          simp at this
      obtain ⟨i, hi, hni⟩ := pigeon f hf n (L.filter (fun x => decide (x ≠ f (n + 1)))) (by omega)
      refine ⟨i, by omega, fun hin => hni (List.mem_filter.2 ⟨hin, ?_⟩)⟩
      simp only [ne_eq, decide_not, Bool.not_eq_eq_eq_not, Bool.not_true, decide_eq_false_iff_not]
      intro e
      have := hf _ _ e
      omega
    · exact ⟨n + 1, Nat.le_refl _, hm⟩
theorem least (p : Nat → Prop) : ∀ n, p n → ∃ m, m ≤ n ∧ p m ∧ ∀ j, j < m → ¬ p j := by
  intro n
  induction n using Nat.strongRecOn with
  | _ n ih =>
    intro hn
    by_cases h : ∃ j, j < n ∧ p j
    · obtain ⟨j, hj, hp⟩ := h
      obtain ⟨m, hm, hpm, hmin⟩ := ih j hj hp
      exact ⟨m, by omega, hpm, hmin⟩
    · exact ⟨n, Nat.le_refl _, hn, fun j hj hp => h ⟨j, hj, hp⟩⟩

/-- k is the first number from 2 on whose candidate is not taken. -/
def IsFirst (s : ByteArray) (L : List (List UInt8)) (k : Nat) : Prop := 2 ≤ k ∧ cand s k ∉ L ∧ ∀ j, 2 ≤ j → j < k → cand s j ∈ L
theorem exists_first (s : ByteArray) (L : List (List UInt8)) : ∃ k, IsFirst s L k ∧ k ≤ L.length + 2 := by
  obtain ⟨i, hi, hni⟩ := pigeon (fun i => cand s (i + 2)) (fun a b h => by have := cand_inj s h; omega) L.length L (Nat.le_refl _)
  obtain ⟨m, hm, hpm, hmin⟩ := least (fun i => cand s (i + 2) ∉ L) i hni
  refine ⟨m + 2, ⟨by omega, hpm, fun j h2 hj => ?_⟩, by omega⟩
  have := hmin (j - 2) (by omega)
  rw [show j - 2 + 2 = j by omega] at this
  exact Classical.not_not.1 this
theorem IsFirst.unique {s : ByteArray} {L : List (List UInt8)} {a b : Nat} (ha : IsFirst s L a) (hb : IsFirst s L b) : a = b := by
  rcases Nat.lt_trichotomy a b with h | h | h
  · exact absurd (hb.2.2 a ha.1 h) ha.2.1
  · exact h
  · exact absurd (ha.2.2 b hb.1 h) hb.2.1
theorem IsFirst.same {s : ByteArray} {L L' : List (List UInt8)} {k : Nat} (h : IsFirst s L k) (he : ∀ x, x ∈ L ↔ x ∈ L') : IsFirst s L' k :=
  ⟨h.1, fun hm => h.2.1 ((he _).2 hm), fun j h2 hj => (he _).1 (h.2.2 j h2 hj)⟩

/-! ### what 'next' says -/
/-- Of each stem: nought; or a number whose predecessor has that many digits, and every smaller number of as many digits, from 2 on, makes a name that is taken. -/
def Inv (f : List UInt8 → Nat → Nat) (L : List (List UInt8)) : Prop :=
  ∀ p d, f p d = 0 ∨ (2 < f p d ∧ nDigits (f p d - 1) = d ∧ ∀ j, 2 ≤ j → j < f p d → nDigits j = d → p ++ suf j ∈ L)
theorem inv_start (L : List (List UInt8)) : Inv (fun _ _ => 0) L := fun _ _ => .inl rfl
def upd (f : List UInt8 → Nat → Nat) (p : List UInt8) (d m : Nat) : List UInt8 → Nat → Nat := fun p' d' => if p' = p ∧ d' = d then m else f p' d'

/-- A jump does not pass the first free one. -/
theorem jump {f : List UInt8 → Nat → Nat} {L : List (List UInt8)} (hI : Inv f L) {s : ByteArray} {K k : Nat} (hK : IsFirst s L K) (h2 : 2 ≤ k) (hkK : k ≤ K) (hlt : k < f (stemOf s (nDigits k)) (nDigits k)) :
    f (stemOf s (nDigits k)) (nDigits k) ≤ K := by
  rcases hI (stemOf s (nDigits k)) (nDigits k) with h | ⟨h1, h3, h4⟩
  · omega
  · refine Nat.le_of_not_lt fun hlt' => ?_
    have m1 := nDigits_mono K k hkK
    have m2 := nDigits_mono (f (stemOf s (nDigits k)) (nDigits k) - 1) K (by omega)
    have hd : nDigits K = nDigits k := by omega
    have := h4 K hK.1 hlt' hd
    rw [← hd] at this
    exact hK.2.1 this
/-- A store, the candidate being taken (or being taken now). -/
theorem store {f : List UInt8 → Nat → Nat} {L L' : List (List UInt8)} (hI : Inv f L) (hsub : ∀ x, x ∈ L → x ∈ L') {s : ByteArray} {k : Nat} (h2 : 2 ≤ k) (hall : ∀ j, 2 ≤ j → j < k → cand s j ∈ L) (hk : cand s k ∈ L') :
    Inv (upd f (stemOf s (nDigits k)) (nDigits k) (k + 1)) L' := by
  intro p d
  by_cases h : p = stemOf s (nDigits k) ∧ d = nDigits k
  · obtain ⟨rfl, rfl⟩ := h
    right
    simp only [upd, and_self, if_true]
    refine ⟨by omega, by simp, fun j hj1 hj2 hjd => ?_⟩
    by_cases hjk : j = k
    · rw [hjk]; exact hk
    · have := hsub _ (hall j hj1 (by omega))
      unfold cand at this
      rw [hjd] at this
      exact this
  · have e : upd f (stemOf s (nDigits k)) (nDigits k) (k + 1) p d = f p d := by simp [upd, h]
    rw [e]
    rcases hI p d with h0 | ⟨a, b, c⟩
    · exact .inl h0
    · exact .inr ⟨a, b, fun j h1 h3 h4 => hsub _ (c j h1 h3 h4)⟩
theorem upd_same (f : List UInt8 → Nat → Nat) (p : List UInt8) (d m : Nat) : upd f p d m p d = m := by simp [upd]
end Go.Proofs.YbulklrcDoor.Plain
