/-
  SEAT b6602904a: the plain side of the merge sort and of the search: the order of strings, merging, halving.
-/
import Derived.Test.Qxb6602904aBase
namespace Go.Proofs.Qxb6602904a

theorem bl_cons_false {a b : UInt8} {x y : List UInt8} (h : Op.bytesLess (a :: x) (b :: y) = false) : ¬ a.toNat < b.toNat ∧ (a = b → Op.bytesLess x y = false) := by
  unfold Op.bytesLess at h
  simp only [Bool.or_eq_false_iff, decide_eq_false_iff_not, Bool.and_eq_false_iff] at h
  refine ⟨fun hl => h.1 (UInt8.lt_iff_toNat_lt.2 hl), fun e => ?_⟩
  rcases h.2 with h2 | h2
  · rw [e] at h2; simp at h2
  · exact h2

theorem bl_cons_of {a b : UInt8} {x y : List UInt8} (h1 : ¬ a.toNat < b.toNat) (h2 : a = b → Op.bytesLess x y = false) : Op.bytesLess (a :: x) (b :: y) = false := by
  unfold Op.bytesLess
  simp only [Bool.or_eq_false_iff, decide_eq_false_iff_not, Bool.and_eq_false_iff]
  refine ⟨fun hl => h1 (UInt8.lt_iff_toNat_lt.1 hl), ?_⟩
  by_cases e : a = b
  · exact .inr (h2 e)
  · exact .inl (by simpa using e)

theorem bl_nil_right (x : List UInt8) : Op.bytesLess x [] = false := by cases x <;> rfl

theorem u8_eq {a b : UInt8} (h : a.toNat = b.toNat) : a = b := UInt8.toNat_inj.1 h

/-- c is not below a, where b is not below a and c is not below b. -/
theorem bl_trans : ∀ (a b c : List UInt8), Op.bytesLess b a = false → Op.bytesLess c b = false → Op.bytesLess c a = false := by
  intro a
  induction a with
  | nil => intro b c _ _; exact bl_nil_right c
  | cons x a ih =>
    intro b c h1 h2
    cases b with
    | nil => simp [Op.bytesLess] at h1
    | cons y b =>
      cases c with
      | nil => simp [Op.bytesLess] at h2
      | cons z c =>
        have g1 := bl_cons_false h1
        have g2 := bl_cons_false h2
        refine bl_cons_of (by omega) fun e => ?_
        subst e
        have e1 : y = z := u8_eq (by omega)
        subst e1
        exact ih b c (g1.2 rfl) (g2.2 rfl)

theorem bl_antisymm : ∀ (a b : List UInt8), Op.bytesLess a b = false → Op.bytesLess b a = false → a = b := by
  intro a
  induction a with
  | nil =>
    intro b h1 _
    cases b with
    | nil => rfl
    | cons y b => simp [Op.bytesLess] at h1
  | cons x a ih =>
    intro b h1 h2
    cases b with
    | nil => simp [Op.bytesLess] at h2
    | cons y b =>
      have g1 := bl_cons_false h1
      have g2 := bl_cons_false h2
      have e : x = y := u8_eq (by omega)
      subst e
      rw [ih b (g1.2 rfl) (g2.2 rfl)]

theorem bl_irrefl : ∀ a : List UInt8, Op.bytesLess a a = false := by
  intro a
  induction a with
  | nil => rfl
  | cons x a ih => exact bl_cons_of (by omega) fun _ => ih

theorem bl_asymm : ∀ (a b : List UInt8), Op.bytesLess a b = true → Op.bytesLess b a = false := by
  intro a
  induction a with
  | nil => intro b _; exact bl_nil_right b
  | cons x a ih =>
    intro b h
    cases b with
    | nil => simp [Op.bytesLess] at h
    | cons y b =>
      unfold Op.bytesLess at h
      simp only [Bool.or_eq_true, decide_eq_true_eq, Bool.and_eq_true, beq_iff_eq] at h
      rcases h with h | ⟨h1, h2⟩
      · have := UInt8.lt_iff_toNat_lt.1 h
        exact bl_cons_of (by omega) fun e => by subst e; omega
      · subst h1
        exact bl_cons_of (by omega) fun _ => ih b h2

/-- s is below t. -/
def bl (s t : ByteArray) : Bool := Op.bytesLess s.toList t.toList
theorem bl_tr {a b c : ByteArray} (h1 : bl b a = false) (h2 : bl c b = false) : bl c a = false := bl_trans _ _ _ h1 h2

/-- The strings stand in order. -/
def Srt (S : List ByteArray) : Prop := ∀ i j, i ≤ j → j < S.length → bl (sAt S j) (sAt S i) = false

theorem sAt_mem {S : List ByteArray} {i : Nat} (h : i < S.length) : sAt S i ∈ S := by unfold sAt; simp [h]
theorem sAt_app_left {S T : List ByteArray} {i : Nat} (h : i < S.length) : sAt (S ++ T) i = sAt S i := by unfold sAt; rw [List.getD_eq_getElem?_getD, List.getElem?_append_left h, List.getD_eq_getElem?_getD]
theorem sAt_app_last (S : List ByteArray) (v : ByteArray) : sAt (S ++ [v]) S.length = v := by unfold sAt; simp

theorem srt_small {S : List ByteArray} (h : S.length ≤ 1) : Srt S := by
  intro i j hij hj
  have : i = j := by omega
  subst this
  exact bl_irrefl _

theorem srt_snoc {S : List ByteArray} {v : ByteArray} (h : Srt S) (hv : ∀ o ∈ S, bl v o = false) : Srt (S ++ [v]) := by
  intro i j hij hj
  simp at hj
  by_cases hj2 : j < S.length
  · rw [sAt_app_left hj2, sAt_app_left (by omega)]; exact h i j hij hj2
  · have e : j = S.length := by omega
    subst e
    rw [sAt_app_last]
    by_cases hi : i < S.length
    · rw [sAt_app_left hi]; exact hv _ (sAt_mem hi)
    · have : i = S.length := by omega
      subst this
      rw [sAt_app_last]; exact bl_irrefl _

theorem tk_snoc (S : List ByteArray) (k : Nat) (h : k < S.length) : S.take (k + 1) = S.take k ++ [sAt S k] := by
  rw [List.take_succ_eq_append_getElem h]; simp [sAt, h]

/-- What holds of the output O where i strings of L and j strings of R have gone over. -/
structure Mrg (L R O : List ByteArray) (i j : Nat) : Prop where
  il : i ≤ L.length
  jr : j ≤ R.length
  len : O.length = i + j
  srt : Srt O
  belowL : ∀ o ∈ O, ∀ k, i ≤ k → k < L.length → bl (sAt L k) o = false
  belowR : ∀ o ∈ O, ∀ k, j ≤ k → k < R.length → bl (sAt R k) o = false
  mem : ∀ y, y ∈ O ↔ y ∈ L.take i ∨ y ∈ R.take j

theorem mrg_start (L R : List ByteArray) : Mrg L R [] 0 0 :=
  ⟨Nat.zero_le _, Nat.zero_le _, rfl, srt_small (by simp), fun o h => by simp at h, fun o h => by simp at h, fun y => by simp⟩

theorem mrg_left {L R O : List ByteArray} {i j : Nat} (hL : Srt L) (h : Mrg L R O i j) (hi : i < L.length) (hr : ∀ k, j ≤ k → k < R.length → bl (sAt R k) (sAt L i) = false) : Mrg L R (O ++ [sAt L i]) (i + 1) j := by
  refine ⟨hi, h.jr, by simp [h.len]; omega, srt_snoc h.srt fun o ho => h.belowL o ho i (Nat.le_refl _) hi, fun o ho k h1 h2 => ?_, fun o ho k h1 h2 => ?_, fun y => ?_⟩
  · rcases List.mem_append.1 ho with ho | ho
    · exact h.belowL o ho k (by omega) h2
    · simp at ho; subst ho; exact hL i k (by omega) h2
  · rcases List.mem_append.1 ho with ho | ho
    · exact h.belowR o ho k h1 h2
    · simp at ho; subst ho; exact hr k h1 h2
  · rw [List.mem_append, h.mem, tk_snoc L i hi, List.mem_append]
    constructor
    · rintro ((h1 | h1) | h1)
      · exact .inl (.inl h1)
      · exact .inr h1
      · exact .inl (.inr h1)
    · rintro ((h1 | h1) | h1)
      · exact .inl (.inl h1)
      · exact .inr h1
      · exact .inl (.inr h1)

theorem mrg_right {L R O : List ByteArray} {i j : Nat} (hR : Srt R) (h : Mrg L R O i j) (hj : j < R.length) (hl : ∀ k, i ≤ k → k < L.length → bl (sAt L k) (sAt R j) = false) : Mrg L R (O ++ [sAt R j]) i (j + 1) := by
  refine ⟨h.il, hj, by simp [h.len]; omega, srt_snoc h.srt fun o ho => h.belowR o ho j (Nat.le_refl _) hj, fun o ho k h1 h2 => ?_, fun o ho k h1 h2 => ?_, fun y => ?_⟩
  · rcases List.mem_append.1 ho with ho | ho
    · exact h.belowL o ho k h1 h2
    · simp at ho; subst ho; exact hl k h1 h2
  · rcases List.mem_append.1 ho with ho | ho
    · exact h.belowR o ho k (by omega) h2
    · simp at ho; subst ho; exact hR j k (by omega) h2
  · rw [List.mem_append, h.mem, tk_snoc R j hj, List.mem_append]
    constructor
    · rintro ((h1 | h1) | h1)
      · exact .inl h1
      · exact .inr (.inl h1)
      · exact .inr (.inr h1)
    · rintro (h1 | h1 | h1)
      · exact .inl (.inl h1)
      · exact .inl (.inr h1)
      · exact .inr h1

/-- 'R[j] < L[i]': R's string goes over. -/
theorem mrg_less {L R O : List ByteArray} {i j : Nat} (hL : Srt L) (hR : Srt R) (h : Mrg L R O i j) (hj : j < R.length) (hc : bl (sAt R j) (sAt L i) = true) : Mrg L R (O ++ [sAt R j]) i (j + 1) :=
  mrg_right hR h hj fun k h1 h2 => bl_tr (bl_asymm _ _ hc) (hL i k h1 h2)
theorem mrg_more {L R O : List ByteArray} {i j : Nat} (hL : Srt L) (hR : Srt R) (h : Mrg L R O i j) (hi : i < L.length) (hc : bl (sAt R j) (sAt L i) = false) : Mrg L R (O ++ [sAt L i]) (i + 1) j :=
  mrg_left hL h hi fun k h1 h2 => bl_tr hc (hR j k h1 h2)
theorem mrg_restL {L R O : List ByteArray} {i j : Nat} (hL : Srt L) (h : Mrg L R O i j) (hi : i < L.length) (hj : j = R.length) : Mrg L R (O ++ [sAt L i]) (i + 1) j :=
  mrg_left hL h hi fun k h1 h2 => by omega
theorem mrg_restR {L R O : List ByteArray} {i j : Nat} (hR : Srt R) (h : Mrg L R O i j) (hi : i = L.length) (hj : j < R.length) : Mrg L R (O ++ [sAt R j]) i (j + 1) :=
  mrg_right hR h hj fun k h1 h2 => by omega

/-- The same strings, in order. -/
def Sorts (S R : List ByteArray) : Prop := R.length = S.length ∧ Srt R ∧ ∀ y, y ∈ R ↔ y ∈ S

theorem sorts_small {S : List ByteArray} (h : S.length ≤ 1) : Sorts S S := ⟨rfl, srt_small h, fun _ => Iff.rfl⟩

theorem sorts_end {S L R O : List ByteArray} {m : Nat} (hm : m ≤ S.length) (hL : Sorts (S.take m) L) (hR : Sorts (S.drop m) R) (h : Mrg L R O L.length R.length) : Sorts S O := by
  refine ⟨by rw [h.len, hL.1, hR.1]; simp; omega, h.srt, fun y => ?_⟩
  rw [h.mem, List.take_of_length_le (Nat.le_refl _), List.take_of_length_le (Nat.le_refl _), hL.2.2, hR.2.2, ← List.mem_append, List.take_append_drop]

theorem hol_sorts {S R : List ByteArray} (h : Sorts S R) (x : ByteArray) : hol R x = hol S x := by
  rw [Bool.eq_iff_iff]
  unfold hol
  rw [List.any_eq_true, List.any_eq_true]
  constructor
  · rintro ⟨o, h1, h2⟩; exact ⟨o, (h.2.2 o).1 h1, h2⟩
  · rintro ⟨o, h1, h2⟩; exact ⟨o, (h.2.2 o).2 h1, h2⟩

theorem hol_iff {S : List ByteArray} {x : ByteArray} : hol S x = true ↔ ∃ k, k < S.length ∧ (sAt S k).toList = x.toList := by
  unfold hol
  rw [List.any_eq_true]
  constructor
  · rintro ⟨o, h1, h2⟩
    obtain ⟨k, hk, rfl⟩ := List.getElem_of_mem h1
    exact ⟨k, hk, by simpa [sAt, hk] using h2⟩
  · rintro ⟨k, hk, h⟩
    exact ⟨sAt S k, sAt_mem hk, by simpa using h⟩

/-- The search's state: all below lo are less than x, none from hi on is. -/
def Half (S : List ByteArray) (x : ByteArray) (lo hi : Nat) : Prop := (∀ k, k < lo → bl (sAt S k) x = true) ∧ (∀ k, hi ≤ k → k < S.length → bl (sAt S k) x = false)

theorem half_up {S : List ByteArray} {x : ByteArray} {lo hi m : Nat} (hS : Srt S) (h : Half S x lo hi) (hm : m < S.length) (hc : bl (sAt S m) x = true) : Half S x (m + 1) hi := by
  refine ⟨fun k hk => ?_, h.2⟩
  cases hq : bl (sAt S k) x with
  | true => rfl
  | false =>
    have := bl_tr hq (hS k m (by omega) hm)
    rw [this] at hc; cases hc
theorem half_down {S : List ByteArray} {x : ByteArray} {lo hi m : Nat} (hS : Srt S) (h : Half S x lo hi) (hc : bl (sAt S m) x = false) : Half S x lo m :=
  ⟨h.1, fun k h1 h2 => bl_tr hc (hS m k h1 h2)⟩

theorem half_at {S : List ByteArray} {x : ByteArray} {lo : Nat} (hS : Srt S) (h : Half S x lo lo) (hl : lo < S.length) : hol S x = ((sAt S lo).toList == x.toList) := by
  rw [Bool.eq_iff_iff, hol_iff]
  constructor
  · rintro ⟨k, hk, e⟩
    have hk2 : lo ≤ k := by
      by_cases hl2 : k < lo
      · have := h.1 k hl2
        unfold bl at this; rw [e, bl_irrefl] at this; cases this
      · omega
    have h1 := h.2 lo (Nat.le_refl _) hl
    have h2 := hS lo k hk2 hk
    have : (sAt S lo).toList = x.toList := bl_antisymm _ _ h1 (by unfold bl at h2; rw [e] at h2; exact h2)
    simpa using this
  · intro e; exact ⟨lo, hl, by simpa using e⟩
theorem half_none {S : List ByteArray} {x : ByteArray} {lo : Nat} (h : Half S x lo lo) (hl : S.length ≤ lo) : hol S x = false := by
  cases hq : hol S x with
  | false => rfl
  | true =>
    obtain ⟨k, hk, e⟩ := hol_iff.1 hq
    have := h.1 k (by omega)
    unfold bl at this; rw [e, bl_irrefl] at this; cases this
end Go.Proofs.Qxb6602904a
