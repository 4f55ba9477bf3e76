/-
  SEAT b6602904aD: the plain side: the fields of a text that is joined of two by a blank, a tab or a line's end.
-/
import Derived.Lib.SpaceUEq
namespace Go.Proofs.Qxb6602904aDoor
open Go.Lib

theorem seq_tails : ∀ q ∈ spaceSeqs, ∀ p ∈ q.tail, 128 ≤ p.toNat := by decide
theorem seq_heads : ∀ q ∈ spaceSeqs, q ≠ [] := by decide

theorem pre_tail (c : UInt8) (hc : c.toNat < 128) (t : List UInt8) : ∀ (q x : List UInt8), (∀ p ∈ q, 128 ≤ p.toNat) → q.isPrefixOf (x ++ c :: t) = q.isPrefixOf x := by
  intro q
  induction q with
  | nil => intro x _; simp
  | cons p q ih =>
    intro x hq
    cases x with
    | nil =>
      have h1 : (p == c) = false := by
        have := hq p (by simp)
        rw [beq_eq_false_iff_ne]; intro e; subst e; omega
      show ((p == c) && q.isPrefixOf t) = false
      rw [h1]; rfl
    | cons y x => simp only [List.cons_append, List.isPrefixOf_cons_cons, ih x (fun p hp => hq p (List.mem_cons_of_mem _ hp))]

theorem pre_sep (c : UInt8) (hc : c.toNat < 128) (t : List UInt8) (b : UInt8) (x q : List UInt8) (hq : q ∈ spaceSeqs) : q.isPrefixOf (b :: x ++ c :: t) = q.isPrefixOf (b :: x) := by
  cases q with
  | nil => exact absurd rfl (seq_heads [] hq)
  | cons p q =>
    simp only [List.cons_append, List.isPrefixOf_cons_cons]
    rw [pre_tail c hc t q x (fun r hr => seq_tails (p :: q) hq r hr)]

theorem find_congr {α : Type} (p q : α → Bool) : ∀ (l : List α), (∀ x ∈ l, p x = q x) → l.find? p = l.find? q := by
  intro l
  induction l with
  | nil => intro _; rfl
  | cons a l ih =>
    intro h
    rw [List.find?_cons, List.find?_cons, h a (by simp), ih fun x hx => h x (List.mem_cons_of_mem _ hx)]

theorem hs_sep (c : UInt8) (hc : c.toNat < 128) (t : List UInt8) (b : UInt8) (x : List UInt8) : headSpace (b :: x ++ c :: t) = headSpace (b :: x) := by
  unfold headSpace
  rw [find_congr _ _ spaceSeqs fun q hq => pre_sep c hc t b x q hq]

theorem hs_le (l : List UInt8) : headSpace l ≤ l.length := by
  unfold headSpace
  cases h : spaceSeqs.find? (·.isPrefixOf l) with
  | none => simp
  | some q =>
    have := List.find?_some h
    have hp : q <+: l := by simpa using this
    simpa using hp.length_le

/-- The fields, with fuel enough. -/
def fu (cur l : List UInt8) : List (List UInt8) := fieldsGoU l.length cur l

theorem fu_fuel (f : Nat) (cur l : List UInt8) (h : l.length ≤ f) : fieldsGoU f cur l = fu cur l := by
  unfold fu
  rw [fieldsGo_eq l.length f cur l (Nat.le_refl _) h, fieldsGo_eq l.length l.length cur l (Nat.le_refl _) (Nat.le_refl _)]

theorem fu_nil (cur : List UInt8) : fu cur [] = if cur = [] then [] else [cur] := rfl
theorem fu_in (cur : List UInt8) (b : UInt8) (t : List UInt8) (h : headSpace (b :: t) = 0) : fu cur (b :: t) = fu (cur ++ [b]) t := by
  show fieldsGoU (t.length + 1) cur (b :: t) = _
  unfold fieldsGoU
  rw [if_pos h, fu_fuel _ _ _ (Nat.le_refl _)]
theorem fu_out (cur : List UInt8) (b : UInt8) (t : List UInt8) (h : headSpace (b :: t) ≠ 0) : fu cur (b :: t) = (if cur = [] then [] else [cur]) ++ fu [] ((b :: t).drop (headSpace (b :: t))) := by
  show fieldsGoU (t.length + 1) cur (b :: t) = _
  unfold fieldsGoU
  rw [if_neg h, fu_fuel _ _ _ (by rw [List.length_drop]; simp; omega)]

theorem fieldsU_fu (l : List UInt8) : fieldsU l = fu [] l := fu_fuel _ _ _ (by omega)

/-- A white-space byte parts the fields, whatever stands around it. -/
theorem fu_sep (c : UInt8) (hc : c.toNat < 128) (t : List UInt8) (h1 : headSpace (c :: t) = 1) : ∀ (n : Nat) (l cur : List UInt8), l.length ≤ n → fu cur (l ++ c :: t) = fu cur l ++ fu [] t := by
  intro n
  induction n with
  | zero =>
    intro l cur hl
    have : l = [] := List.eq_nil_of_length_eq_zero (by omega)
    subst this
    rw [List.nil_append, fu_out cur c t (by omega), h1, fu_nil]; rfl
  | succ n ih =>
    intro l cur hl
    cases l with
    | nil => rw [List.nil_append, fu_out cur c t (by omega), h1, fu_nil]; rfl
    | cons b l =>
      have hs := hs_sep c hc t b l
      have hs' : headSpace (b :: (l ++ c :: t)) = headSpace (b :: l) := hs
      by_cases h0 : headSpace (b :: l) = 0
      · rw [fu_in cur b l h0, ← ih l (cur ++ [b]) (by simp at hl; omega)]
        show fu cur (b :: (l ++ c :: t)) = _
        rw [fu_in cur b (l ++ c :: t) (by rw [hs']; exact h0)]
      · have hle := hs_le (b :: l)
        rw [fu_out cur b l h0]
        show fu cur (b :: (l ++ c :: t)) = _
        rw [fu_out cur b (l ++ c :: t) (by rw [hs']; exact h0), hs', List.append_assoc, ← ih ((b :: l).drop (headSpace (b :: l))) [] (by rw [List.length_drop]; simp at hl ⊢; omega)]
        congr 2
        show ((b :: l) ++ c :: t).drop _ = _
        rw [List.drop_append_of_le_length hle]

theorem hs_one (c : UInt8) (hc : c = 32 ∨ c = 9 ∨ c = 10) (t : List UInt8) : headSpace (c :: t) = 1 := by
  unfold headSpace
  rcases hc with rfl | rfl | rfl <;> simp [spaceSeqs]

theorem fields_sep (c : UInt8) (hc : c = 32 ∨ c = 9 ∨ c = 10) (a b : List UInt8) : fieldsU (a ++ c :: b) = fieldsU a ++ fieldsU b := by
  rw [fieldsU_fu, fieldsU_fu, fieldsU_fu]
  exact fu_sep c (by rcases hc with rfl | rfl | rfl <;> decide) b (hs_one c hc b) _ a [] (Nat.le_refl _)

/-- Is w one of the fields of l? -/
def has (w l : List UInt8) : Bool := (fieldsU l).any (· == w)
def cpuW : List UInt8 := [99, 112, 117]
def memW : List UInt8 := [109, 101, 109, 111, 114, 121]
/-- What hasControllers answers. -/
def hcL (l : List UInt8) : Bool := has cpuW l && has memW l

theorem has_sep (w : List UInt8) (c : UInt8) (hc : c = 32 ∨ c = 9 ∨ c = 10) (a b : List UInt8) : has w (a ++ c :: b) = (has w a || has w b) := by
  unfold has; rw [fields_sep c hc, List.any_append]

theorem hc_comm (a b : List UInt8) : hcL (a ++ 32 :: b) = hcL (b ++ 32 :: a) := by
  unfold hcL
  rw [has_sep _ 32 (.inl rfl), has_sep _ 32 (.inl rfl), has_sep _ 32 (.inl rfl), has_sep _ 32 (.inl rfl), Bool.or_comm (has cpuW a), Bool.or_comm (has memW a)]
theorem hc_keep (a b : List UInt8) (h : (hcL a || hcL b) = true) : hcL (a ++ 32 :: b) = true := by
  unfold hcL at h ⊢
  rw [has_sep _ 32 (.inl rfl), has_sep _ 32 (.inl rfl)]
  revert h
  cases has cpuW a <;> cases has cpuW b <;> cases has memW a <;> cases has memW b <;> simp
theorem hc_frame1 (a : List UInt8) : hcL (memW ++ 32 :: (a ++ 32 :: cpuW)) = true := by
  have e1 : has cpuW cpuW = true := by decide
  have e2 : has memW memW = true := by decide
  unfold hcL
  rw [has_sep _ 32 (.inl rfl), has_sep _ 32 (.inl rfl), has_sep _ 32 (.inl rfl), has_sep _ 32 (.inl rfl), e1, e2]; simp
theorem hc_frame2 (b : List UInt8) : hcL (cpuW ++ 9 :: (b ++ 10 :: memW)) = true := by
  have e1 : has cpuW cpuW = true := by decide
  have e2 : has memW memW = true := by decide
  unfold hcL
  rw [has_sep _ 9 (.inr (.inl rfl)), has_sep _ 10 (.inr (.inr rfl)), has_sep _ 9 (.inr (.inl rfl)), has_sep _ 10 (.inr (.inr rfl)), e1, e2]; simp
end Go.Proofs.Qxb6602904aDoor
