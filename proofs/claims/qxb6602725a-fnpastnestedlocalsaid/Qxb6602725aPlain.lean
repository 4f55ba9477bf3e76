/-
  THE PLAIN SIDE OF SEAT b6602725a: what pastString and pastNested compute, as functions on lists of numbers; the laws, with no Go in sight.
-/
namespace Go.Proofs.Qxb6602725a.Pl

def bad (c : Int) : Bool := decide (c < 32) || decide (126 < c)
theorem bad_yes {c : Int} (h : c < 32 ∨ 126 < c) : bad c = true := by simpa [bad] using h
theorem bad_no {c : Int} (h3 : 32 ≤ c) (h4 : c ≤ 126) : ¬ bad c = true := by simp [bad]; omega

/-- pastString from place i on, 'plain' so far p; the first argument is fuel. -/
def ps (Z : List Int) : Nat → Nat → Bool → Bool × Bool × Nat
  | 0, _, p => (p, false, Z.length)
  | f + 1, i, p =>
    if i < Z.length then
      if Z.getD i 0 = 34 then (p, true, i + 1)
      else if Z.getD i 0 = 92 then ps Z f (i + 2) false
      else if bad (Z.getD i 0) = true then ps Z f (i + 1) false
      else ps Z f (i + 1) p
    else (p, false, Z.length)

def psAt (Z : List Int) (i : Nat) (p : Bool) : Bool × Bool × Nat := ps Z (Z.length - i) i p

theorem ps_end {Z : List Int} (f i : Nat) (p : Bool) (h : Z.length ≤ i) : ps Z f i p = (p, false, Z.length) := by
  cases f with
  | zero => rfl
  | succ f => unfold ps; rw [if_neg (by omega)]

theorem ps_fuel (Z : List Int) : ∀ (f g i : Nat) (p : Bool), Z.length - i ≤ f → Z.length - i ≤ g → ps Z f i p = ps Z g i p := by
  intro f
  induction f with
  | zero => intro g i p h _; rw [ps_end 0 i p (by omega), ps_end g i p (by omega)]
  | succ f ih =>
    intro g i p hf hg
    cases g with
    | zero => rw [ps_end 0 i p (by omega), ps_end _ i p (by omega)]
    | succ g =>
      by_cases h : i < Z.length
      · unfold ps
        rw [if_pos h, if_pos h, ih g (i + 2) false (by omega) (by omega), ih g (i + 1) false (by omega) (by omega), ih g (i + 1) p (by omega) (by omega)]
      · rw [ps_end _ i p (by omega), ps_end _ i p (by omega)]

theorem psAt_end {Z : List Int} {i : Nat} (p : Bool) (h : Z.length ≤ i) : psAt Z i p = (p, false, Z.length) := ps_end _ _ _ h

theorem psAt_unfold {Z : List Int} {i : Nat} (p : Bool) (h : i < Z.length) :
    psAt Z i p = if Z.getD i 0 = 34 then (p, true, i + 1) else if Z.getD i 0 = 92 then psAt Z (i + 2) false else if bad (Z.getD i 0) = true then psAt Z (i + 1) false else psAt Z (i + 1) p := by
  unfold psAt
  rw [ps_fuel Z (Z.length - i) (Z.length - i + 1) i p (by omega) (by omega)]
  conv => lhs; unfold ps
  rw [if_pos h, ps_fuel Z (Z.length - i) (Z.length - (i + 2)) (i + 2) false (by omega) (by omega), ps_fuel Z (Z.length - i) (Z.length - (i + 1)) (i + 1) false (by omega) (by omega), ps_fuel Z (Z.length - i) (Z.length - (i + 1)) (i + 1) p (by omega) (by omega)]

theorem psAt_quote {Z : List Int} {i : Nat} (p : Bool) (h : i < Z.length) (hc : Z.getD i 0 = 34) : psAt Z i p = (p, true, i + 1) := by
  rw [psAt_unfold p h, if_pos hc]
theorem psAt_esc {Z : List Int} {i : Nat} (p : Bool) (h : i < Z.length) (hc : Z.getD i 0 = 92) : psAt Z i p = psAt Z (i + 2) false := by
  rw [psAt_unfold p h, if_neg (by omega), if_pos hc]
theorem psAt_bad {Z : List Int} {i : Nat} (p : Bool) (h : i < Z.length) (h1 : Z.getD i 0 ≠ 34) (h2 : Z.getD i 0 ≠ 92) (hc : Z.getD i 0 < 32 ∨ 126 < Z.getD i 0) : psAt Z i p = psAt Z (i + 1) false := by
  rw [psAt_unfold p h, if_neg h1, if_neg h2, if_pos (bad_yes hc)]
theorem psAt_ok {Z : List Int} {i : Nat} (p : Bool) (h : i < Z.length) (h1 : Z.getD i 0 ≠ 34) (h2 : Z.getD i 0 ≠ 92) (h3 : 32 ≤ Z.getD i 0) (h4 : Z.getD i 0 ≤ 126) : psAt Z i p = psAt Z (i + 1) p := by
  rw [psAt_unfold p h, if_neg h1, if_neg h2, if_neg (bad_no h3 h4)]

/-- Where it stops does not hang on p. -/
theorem ps_next (Z : List Int) : ∀ (f i : Nat) (p q : Bool), (ps Z f i p).2 = (ps Z f i q).2 := by
  intro f
  induction f with
  | zero => intro i p q; rfl
  | succ f ih =>
    intro i p q
    unfold ps
    split
    · split
      · rfl
      · split
        · rfl
        · split
          · rfl
          · exact ih _ _ _
    · rfl
theorem psAt_next (Z : List Int) (i : Nat) (p q : Bool) : (psAt Z i p).2 = (psAt Z i q).2 := ps_next Z _ _ _ _

theorem ps_bounds (Z : List Int) : ∀ (f i : Nat) (p : Bool), Z.length - i ≤ f → (ps Z f i p).2.2 ≤ Z.length ∧ (i ≤ Z.length → i ≤ (ps Z f i p).2.2) ∧ ((ps Z f i p).2.1 = false → (ps Z f i p).2.2 = Z.length) ∧ ((ps Z f i p).2.1 = true → i < (ps Z f i p).2.2) := by
  intro f
  induction f with
  | zero => intro i p h; refine ⟨Nat.le_refl _, fun _ => ?_, fun _ => rfl, fun h => ?_⟩ <;> simp_all [ps]
  | succ f ih =>
    intro i p h
    by_cases hi : i < Z.length
    · unfold ps
      rw [if_pos hi]
      split
      · refine ⟨hi, fun _ => ?_, fun h => ?_, fun _ => ?_⟩ <;> simp_all
      · split
        · have := ih (i + 2) false (by omega)
          refine ⟨this.1, fun _ => ?_, this.2.2.1, fun h => ?_⟩
          · by_cases h2 : i + 2 ≤ Z.length
            · have := this.2.1 h2; omega
            · rw [ps_end _ _ _ (by omega)]; simp; omega
          · have := this.2.2.2 h; omega
        · split
          · have := ih (i + 1) false (by omega)
            refine ⟨this.1, fun _ => ?_, this.2.2.1, fun h => ?_⟩
            · have := this.2.1 (by omega); omega
            · have := this.2.2.2 h; omega
          · have := ih (i + 1) p (by omega)
            refine ⟨this.1, fun _ => ?_, this.2.2.1, fun h => ?_⟩
            · have := this.2.1 (by omega); omega
            · have := this.2.2.2 h; omega
    · rw [ps_end _ _ _ (by omega)]
      refine ⟨Nat.le_refl _, fun h => ?_, fun _ => rfl, fun h => ?_⟩ <;> simp_all
theorem psAt_bounds (Z : List Int) (i : Nat) (p : Bool) : (psAt Z i p).2.2 ≤ Z.length ∧ (i ≤ Z.length → i ≤ (psAt Z i p).2.2) ∧ ((psAt Z i p).2.1 = false → (psAt Z i p).2.2 = Z.length) ∧ ((psAt Z i p).2.1 = true → i < (psAt Z i p).2.2) :=
  ps_bounds Z _ i p (Nat.le_refl _)

/-! ### Statement 1: FnPastStringWhole -/
/-- The number of backslashes just before place s + m, counted back to s. -/
def runB (Z : List Int) (s : Nat) : Nat → Nat
  | 0 => 0
  | m + 1 => if Z.getD (s + m) 0 = 92 then runB Z s m + 1 else 0

def okc (c : Int) : Bool := !(decide (c = 92)) && !bad c
theorem okc_no {c : Int} (h : c = 92 ∨ c < 32 ∨ 126 < c) : okc c = false := by
  rcases h with h | h
  · simp [okc, h]
  · simp [okc, bad_yes h]
theorem okc_yes {c : Int} (h1 : c ≠ 92) (h3 : 32 ≤ c) (h4 : c ≤ 126) : okc c = true := by
  have := bad_no h3 h4
  simp [okc, h1]; simpa using this
/-- Is every one of the m bytes from s on printable and no backslash? -/
def pl (Z : List Int) (s : Nat) : Nat → Bool
  | 0 => true
  | m + 1 => pl Z s m && okc (Z.getD (s + m) 0)

theorem runB_le (Z : List Int) (s m : Nat) : runB Z s m ≤ m := by
  induction m with
  | zero => exact Nat.le_refl _
  | succ m ih => unfold runB; split <;> omega

/-- What the inner loop finds: r backslashes, then either the head or another byte. -/
theorem runB_eq (Z : List Int) (s : Nat) : ∀ (m r : Nat), r ≤ m → (∀ k, k < r → Z.getD (s + m - 1 - k) 0 = 92) → (r = m ∨ Z.getD (s + m - 1 - r) 0 ≠ 92) → runB Z s m = r := by
  intro m
  induction m with
  | zero => intro r h _ _; have : r = 0 := by omega
            subst this; rfl
  | succ m ih =>
    intro r h h1 h2
    unfold runB
    cases r with
    | zero =>
      have : Z.getD (s + m) 0 ≠ 92 := by
        rcases h2 with h2 | h2
        · omega
        · simpa using h2
      rw [if_neg this]
    | succ r =>
      have h0 : Z.getD (s + m) 0 = 92 := by simpa using h1 0 (by omega)
      have g1 : ∀ k, k < r → Z.getD (s + m - 1 - k) 0 = 92 := by
        intro k hk
        have := h1 (k + 1) (by omega)
        rw [show s + m - 1 - k = s + (m + 1) - 1 - (k + 1) from by omega]; exact this
      have g2 : r = m ∨ Z.getD (s + m - 1 - r) 0 ≠ 92 := by
        rcases h2 with h2 | h2
        · exact .inl (by omega)
        · refine .inr ?_
          rw [show s + m - 1 - r = s + (m + 1) - 1 - (r + 1) from by omega]; exact h2
      rw [if_pos h0, ih r (by omega) g1 g2]

/-- Where the run is odd the byte before is a backslash, so the stretch is not plain. -/
theorem pl_odd (Z : List Int) (s m : Nat) (h : runB Z s m % 2 = 1) : pl Z s m = false := by
  cases m with
  | zero => simp [runB] at h
  | succ m =>
    unfold runB at h
    split at h
    · rename_i hc; unfold pl okc; rw [hc]; simp
    · simp at h

/-- What is known at place s + m as long as no quote has closed. -/
def Inv (Z : List Int) (s m : Nat) : Prop :=
  (runB Z s m % 2 = 0 → psAt Z s true = psAt Z (s + m) (pl Z s m)) ∧ (runB Z s m % 2 = 1 → psAt Z s true = psAt Z (s + m + 1) false)

theorem inv_start (Z : List Int) (s : Nat) : Inv Z s 0 := ⟨fun _ => rfl, fun h => by simp [runB] at h⟩

theorem inv_step {Z : List Int} {s m : Nat} (hi : Inv Z s m) (hl : s + m < Z.length) (hc : Z.getD (s + m) 0 ≠ 34 ∨ runB Z s m % 2 = 1) : Inv Z s (m + 1) := by
  by_cases hr : runB Z s m % 2 = 1
  · have h1 := hi.2 hr
    have hp : pl Z s (m + 1) = false := by unfold pl; rw [pl_odd Z s m hr]; rfl
    refine ⟨fun _ => ?_, fun h => ?_⟩
    · rw [hp, h1]; rfl
    · unfold runB at h; split at h <;> omega
  · have h1 := hi.1 (by omega)
    have hq : Z.getD (s + m) 0 ≠ 34 := by rcases hc with h | h; exact h; omega
    by_cases h92 : Z.getD (s + m) 0 = 92
    · refine ⟨fun h => ?_, fun _ => ?_⟩
      · unfold runB at h; rw [if_pos h92] at h; omega
      · rw [h1, psAt_esc _ hl h92]; rfl
    · have hrun : runB Z s (m + 1) = 0 := by unfold runB; rw [if_neg h92]
      refine ⟨fun _ => ?_, fun h => by rw [hrun] at h; simp at h⟩
      rw [h1]
      by_cases hb : Z.getD (s + m) 0 < 32 ∨ 126 < Z.getD (s + m) 0
      · rw [psAt_bad _ hl hq h92 hb]
        have : pl Z s (m + 1) = false := by show (pl Z s m && okc (Z.getD (s + m) 0)) = false; rw [okc_no (.inr hb)]; simp
        rw [this]; rfl
      · rw [psAt_ok _ hl hq h92 (by omega) (by omega)]
        have : pl Z s (m + 1) = pl Z s m := by
          show (pl Z s m && okc (Z.getD (s + m) 0)) = pl Z s m
          rw [okc_yes h92 (by omega) (by omega)]; simp
        rw [this]; rfl

/-- A quote closes. -/
theorem inv_close {Z : List Int} {s m : Nat} (hi : Inv Z s m) (hl : s + m < Z.length) (hq : Z.getD (s + m) 0 = 34) (hr : runB Z s m % 2 = 0) : psAt Z s true = (pl Z s m, true, s + m + 1) := by
  rw [hi.1 hr, psAt_quote _ hl hq]

/-- No quote closes. -/
theorem inv_none {Z : List Int} {s m : Nat} (hi : Inv Z s m) (hl : s + m = Z.length) : psAt Z s true = (pl Z s m, false, Z.length) := by
  by_cases hr : runB Z s m % 2 = 1
  · rw [hi.2 hr, pl_odd Z s m hr, psAt_end _ (by omega)]
  · rw [hi.1 (by omega), psAt_end _ (by omega)]

theorem pl_stop (Z : List Int) (s : Nat) : ∀ (m k : Nat), k < m → okc (Z.getD (s + k) 0) = false → pl Z s m = false := by
  intro m
  induction m with
  | zero => intro k h; omega
  | succ m ih =>
    intro k h hc
    unfold pl
    by_cases e : k = m
    · subst e; rw [hc]; simp
    · rw [ih k (by omega) hc]; rfl
end Go.Proofs.Qxb6602725a.Pl
