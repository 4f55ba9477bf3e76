/-
  THE PLAIN SIDE OF FnPastStringRoundTrip: an escaped text, read back.
-/
import Derived.Test.Qxb6602725aPlain
namespace Go.Proofs.Qxb6602725a.Pl

def esc1 (c : Int) : List Int := if c = 34 ∨ c = 92 then [92, c] else [c]
def esc (C : List Int) : List Int := C.flatMap esc1
def okq (c : Int) : Bool := !(decide (c = 34)) && okc c
def okAll (C : List Int) : Bool := C.all okq

theorem esc_nil : esc [] = [] := rfl
theorem esc_cons (c : Int) (C : List Int) : esc (c :: C) = esc1 c ++ esc C := rfl
theorem esc_snoc (C : List Int) (c : Int) : esc (C ++ [c]) = esc C ++ esc1 c := by simp [esc]
theorem okAll_snoc (C : List Int) (c : Int) : okAll (C ++ [c]) = (okAll C && okq c) := by simp [okAll]

theorem esc1_q {c : Int} (h : c = 34 ∨ c = 92) : esc1 c = [92, c] := by unfold esc1; rw [if_pos h]
theorem esc1_n {c : Int} (h1 : c ≠ 34) (h2 : c ≠ 92) : esc1 c = [c] := by unfold esc1; rw [if_neg (by omega)]
theorem okq_q {c : Int} (h : c = 34 ∨ c = 92) : okq c = false := by
  rcases h with h | h
  · simp [okq, h]
  · simp [okq, okc_no (.inl h)]
theorem okq_bad {c : Int} (h : c < 32 ∨ 126 < c) : okq c = false := by simp [okq, okc_no (.inr h)]
theorem okq_ok {c : Int} (h1 : c ≠ 34) (h2 : c ≠ 92) (h3 : 32 ≤ c) (h4 : c ≤ 126) : okq c = true := by simp [okq, h1, okc_yes h2 h3 h4]

theorem take_snoc (C : List Int) (k : Nat) (h : k < C.length) : C.take (k + 1) = C.take k ++ [C.getD k 0] := by
  rw [List.take_succ_eq_append_getElem h]; simp [h]

theorem at_app (A B : List Int) (c : Int) : (A ++ c :: B).getD A.length 0 = c := by simp

theorem back (T : List Int) : ∀ (C A : List Int) (p : Bool), psAt (A ++ (esc C ++ 34 :: T)) A.length p = (p && okAll C, true, A.length + (esc C).length + 1) := by
  intro C
  induction C with
  | nil =>
    intro A p
    have h : A.length < (A ++ (esc [] ++ 34 :: T)).length := by simp [esc_nil]
    rw [psAt_quote p h (at_app A T 34)]
    simp [okAll, esc_nil]
  | cons c C ih =>
    intro A p
    have e : A ++ (esc (c :: C) ++ 34 :: T) = (A ++ esc1 c) ++ (esc C ++ 34 :: T) := by rw [esc_cons]; simp
    have key : psAt (A ++ (esc (c :: C) ++ 34 :: T)) A.length p = psAt (A ++ (esc (c :: C) ++ 34 :: T)) (A ++ esc1 c).length (p && okq c) := by
      by_cases hq : c = 34 ∨ c = 92
      · rw [esc_cons, esc1_q hq]
        have h : A.length < (A ++ ([92, c] ++ esc C ++ 34 :: T)).length := by simp
        rw [psAt_esc p h (at_app A _ 92), okq_q hq]; simp
      · have h1 : c ≠ 34 := fun h => hq (.inl h)
        have h2 : c ≠ 92 := fun h => hq (.inr h)
        rw [esc_cons, esc1_n h1 h2]
        have h : A.length < (A ++ ([c] ++ esc C ++ 34 :: T)).length := by simp
        have hc : (A ++ ([c] ++ esc C ++ 34 :: T)).getD A.length 0 = c := at_app A _ c
        by_cases hb : c < 32 ∨ 126 < c
        · rw [psAt_bad p h (by rw [hc]; exact h1) (by rw [hc]; exact h2) (by rw [hc]; exact hb), okq_bad hb]; simp
        · rw [psAt_ok p h (by rw [hc]; exact h1) (by rw [hc]; exact h2) (by rw [hc]; omega) (by rw [hc]; omega), okq_ok h1 h2 (by omega) (by omega)]; simp
    rw [key, e, ih (A ++ esc1 c) (p && okq c), esc_cons]
    simp [okAll, Bool.and_assoc, Nat.add_assoc]

theorem back' (pre C T : List Int) (lp : Nat) (h : pre.length = lp) : psAt (pre ++ 34 :: esc C ++ [34] ++ T) (lp + 1) true = (okAll C, true, lp + 1 + (esc C).length + 1) := by
  have e : pre ++ 34 :: esc C ++ [34] ++ T = (pre ++ [34]) ++ (esc C ++ 34 :: T) := by simp
  have := back T C (pre ++ [34]) true
  rw [e]
  simpa [h] using this
theorem esc_step_q {A C : List Int} {k : Nat} {c : Int} (hk : k < C.length) (hc : c = C.getD k 0) (hq : c = 34 ∨ c = 92) : A ++ 34 :: esc (C.take (k + 1)) = A ++ 34 :: esc (C.take k) ++ [92] ++ [c] ∧ okAll (C.take (k + 1)) = false := by
  rw [take_snoc C k hk, ← hc, esc_snoc, esc1_q hq, okAll_snoc, okq_q hq]; simp
theorem esc_step_bad {A C : List Int} {k : Nat} {c : Int} (hk : k < C.length) (hc : c = C.getD k 0) (h1 : c ≠ 34) (h2 : c ≠ 92) (hb : c < 32 ∨ 126 < c) : A ++ 34 :: esc (C.take (k + 1)) = A ++ 34 :: esc (C.take k) ++ [c] ∧ okAll (C.take (k + 1)) = false := by
  rw [take_snoc C k hk, ← hc, esc_snoc, esc1_n h1 h2, okAll_snoc, okq_bad hb]; simp
theorem esc_step_ok {A C : List Int} {k : Nat} {c : Int} (hk : k < C.length) (hc : c = C.getD k 0) (h1 : c ≠ 34) (h2 : c ≠ 92) (h3 : 32 ≤ c) (h4 : c ≤ 126) : A ++ 34 :: esc (C.take (k + 1)) = A ++ 34 :: esc (C.take k) ++ [c] ∧ okAll (C.take (k + 1)) = okAll (C.take k) := by
  rw [take_snoc C k hk, ← hc, esc_snoc, esc1_n h1 h2, okAll_snoc, okq_ok h1 h2 h3 h4]; simp
end Go.Proofs.Qxb6602725a.Pl
