/-
  THE PLAIN SIDE OF pastNested: what it computes; the two laws over it.
-/
import Derived.Test.Qxb6602725aPlain
namespace Go.Proofs.Qxb6602725a.Pl

/-- Where a string that opens at place i ends (the place behind it). -/
def nx (Z : List Int) (i : Nat) : Nat := (psAt Z (i + 1) true).2.2

/-- The depth behind byte c. -/
def dl (c d : Int) : Int := if c = 91 ∨ c = 123 then d + 1 else if c = 93 ∨ c = 125 then d - 1 else d

/-- pastNested from place i on, at depth d; the first argument is fuel. -/
def pn (Z : List Int) : Nat → Nat → Int → Nat
  | 0, i, _ => i
  | f + 1, i, d =>
    if i < Z.length then
      if Z.getD i 0 = 34 then pn Z f (nx Z i) d
      else if dl (Z.getD i 0) d = 0 then i + 1
      else pn Z f (i + 1) (dl (Z.getD i 0) d)
    else i

def pnAt (Z : List Int) (i : Nat) (d : Int) : Nat := pn Z (Z.length - i) i d

theorem nx_bounds (Z : List Int) (i : Nat) (h : i < Z.length) : i < nx Z i ∧ nx Z i ≤ Z.length := by
  have b := psAt_bounds Z (i + 1) true
  exact ⟨by have := b.2.1 (by omega); unfold nx; omega, b.1⟩

theorem pn_end {Z : List Int} (f i : Nat) (d : Int) (h : Z.length ≤ i) : pn Z f i d = i := by
  cases f with
  | zero => rfl
  | succ f => unfold pn; rw [if_neg (by omega)]

theorem pn_fuel (Z : List Int) : ∀ (f g i : Nat) (d : Int), Z.length - i ≤ f → Z.length - i ≤ g → pn Z f i d = pn Z g i d := by
  intro f
  induction f with
  | zero => intro g i d h _; rw [pn_end 0 i d (by omega), pn_end g i d (by omega)]
  | succ f ih =>
    intro g i d hf hg
    cases g with
    | zero => rw [pn_end 0 i d (by omega), pn_end _ i d (by omega)]
    | succ g =>
      by_cases h : i < Z.length
      · have hn := nx_bounds Z i h
        unfold pn
        rw [if_pos h, if_pos h, ih g (nx Z i) d (by omega) (by omega), ih g (i + 1) _ (by omega) (by omega)]
      · rw [pn_end _ i d (by omega), pn_end _ i d (by omega)]

theorem pnAt_end {Z : List Int} {i : Nat} (d : Int) (h : Z.length ≤ i) : pnAt Z i d = i := pn_end _ _ _ h

theorem pnAt_unfold {Z : List Int} {i : Nat} (d : Int) (h : i < Z.length) :
    pnAt Z i d = if Z.getD i 0 = 34 then pnAt Z (nx Z i) d else if dl (Z.getD i 0) d = 0 then i + 1 else pnAt Z (i + 1) (dl (Z.getD i 0) d) := by
  have hn := nx_bounds Z i h
  unfold pnAt
  rw [pn_fuel Z (Z.length - i) (Z.length - i + 1) i d (by omega) (by omega)]
  conv => lhs; unfold pn
  rw [if_pos h, pn_fuel Z (Z.length - i) (Z.length - nx Z i) (nx Z i) d (by omega) (by omega), pn_fuel Z (Z.length - i) (Z.length - (i + 1)) (i + 1) _ (by omega) (by omega)]

theorem pnAt_quote {Z : List Int} {i : Nat} (d : Int) (h : i < Z.length) (hc : Z.getD i 0 = 34) : pnAt Z i d = pnAt Z (nx Z i) d := by
  rw [pnAt_unfold d h, if_pos hc]
theorem pnAt_stop {Z : List Int} {i : Nat} (d : Int) (h : i < Z.length) (hc : Z.getD i 0 ≠ 34) (hd : dl (Z.getD i 0) d = 0) : pnAt Z i d = i + 1 := by
  rw [pnAt_unfold d h, if_neg hc, if_pos hd]
theorem pnAt_go {Z : List Int} {i : Nat} (d : Int) (h : i < Z.length) (hc : Z.getD i 0 ≠ 34) (hd : dl (Z.getD i 0) d ≠ 0) : pnAt Z i d = pnAt Z (i + 1) (dl (Z.getD i 0) d) := by
  rw [pnAt_unfold d h, if_neg hc, if_neg hd]

theorem dl_up {c : Int} (d : Int) (h : c = 91 ∨ c = 123) : dl c d = d + 1 := by unfold dl; rw [if_pos h]
theorem dl_down {c : Int} (d : Int) (h : c = 93 ∨ c = 125) : dl c d = d - 1 := by unfold dl; rw [if_neg (by omega), if_pos h]
theorem dl_same {c : Int} (d : Int) (h1 : c ≠ 91) (h2 : c ≠ 123) (h3 : c ≠ 93) (h4 : c ≠ 125) : dl c d = d := by unfold dl; rw [if_neg (by omega), if_neg (by omega)]

theorem pn_le (Z : List Int) : ∀ (f i : Nat) (d : Int), i ≤ Z.length → Z.length - i ≤ f → i ≤ pn Z f i d ∧ pn Z f i d ≤ Z.length := by
  intro f
  induction f with
  | zero => intro i d h _; exact ⟨Nat.le_refl _, h⟩
  | succ f ih =>
    intro i d h hf
    by_cases hi : i < Z.length
    · have hn := nx_bounds Z i hi
      unfold pn
      rw [if_pos hi]
      split
      · have := ih (nx Z i) d (by omega) (by omega); omega
      · split
        · omega
        · have := ih (i + 1) (dl (Z.getD i 0) d) (by omega) (by omega); omega
    · rw [pn_end _ _ _ (by omega)]; omega
theorem pnAt_le (Z : List Int) (i : Nat) (d : Int) (h : i ≤ Z.length) : i ≤ pnAt Z i d ∧ pnAt Z i d ≤ Z.length := pn_le Z _ i d h (Nat.le_refl _)

/-! ### FnPastNestedWhole: the two passes -/
/-- The lexer's state: 0 outside, 1 inside a string, 2 behind a backslash inside one. -/
def step (s : Nat) (c : Int) : Nat := if s = 0 then (if c = 34 then 1 else 0) else if s = 1 then (if c = 92 then 2 else if c = 34 then 0 else 1) else 1
theorem step_0q : step 0 34 = 1 := rfl
theorem step_0 {c : Int} (h : c ≠ 34) : step 0 c = 0 := by unfold step; rw [if_pos rfl, if_neg h]
theorem step_1 {c : Int} (h1 : c ≠ 92) (h2 : c ≠ 34) : step 1 c = 1 := by unfold step; rw [if_neg (by omega), if_pos rfl, if_neg h1, if_neg h2]
theorem step_le (s : Nat) (c : Int) : step s c ≤ 2 := by
  unfold step
  by_cases h0 : s = 0
  · rw [if_pos h0]; split <;> omega
  · rw [if_neg h0]
    by_cases h1 : s = 1
    · rw [if_pos h1]
      split
      · omega
      · split <;> omega
    · rw [if_neg h1]; omega
/-- The state ahead of byte q + k. -/
def st (Z : List Int) (q : Nat) : Nat → Nat
  | 0 => 0
  | k + 1 => step (st Z q k) (Z.getD (q + k) 0)
/-- Is byte q + k inside a string? -/
def ins (Z : List Int) (q k : Nat) : Bool := !(decide (st Z q k = 0) && !(decide (Z.getD (q + k) 0 = 34)))

theorem st_le (Z : List Int) (q k : Nat) : st Z q k ≤ 2 := by
  cases k with
  | zero => unfold st; omega
  | succ k => exact step_le _ _

/-- What is known at place q + k, depth d, as long as the second pass goes on. -/
def NInv (Z : List Int) (q k : Nat) (d : Int) : Prop :=
  (st Z q k = 0 → pnAt Z q 0 = pnAt Z (q + k) d) ∧ (st Z q k = 1 → pnAt Z q 0 = pnAt Z (psAt Z (q + k) true).2.2 d) ∧ (st Z q k = 2 → pnAt Z q 0 = pnAt Z (psAt Z (q + k + 1) true).2.2 d)

theorem ninv_start (Z : List Int) (q : Nat) : NInv Z q 0 0 := ⟨fun _ => rfl, fun h => by simp [st] at h, fun h => by simp [st] at h⟩

theorem nx_eq (Z : List Int) (i : Nat) (p : Bool) : (psAt Z i p).2.2 = (psAt Z i true).2.2 := by rw [psAt_next Z i p true]

/-- A byte inside a string. -/
theorem ninv_in {Z : List Int} {q k : Nat} {d : Int} (hi : NInv Z q k d) (hl : q + k < Z.length) (hin : ins Z q k = true) : NInv Z q (k + 1) d := by
  have hst := st_le Z q k
  have hs : st Z q (k + 1) = step (st Z q k) (Z.getD (q + k) 0) := rfl
  rcases (by omega : st Z q k = 0 ∨ st Z q k = 1 ∨ st Z q k = 2) with h | h | h
  · have hq : Z.getD (q + k) 0 = 34 := by
      by_cases e : Z.getD (q + k) 0 = 34
      · exact e
      · unfold ins at hin; rw [decide_eq_false e, decide_eq_true h] at hin; simp at hin
    have h1 : st Z q (k + 1) = 1 := by rw [hs, h, hq]; rfl
    refine ⟨fun e => by omega, fun _ => ?_, fun e => by omega⟩
    rw [hi.1 h, pnAt_quote d hl hq]; rfl
  · have g := hi.2.1 h
    by_cases h92 : Z.getD (q + k) 0 = 92
    · have h1 : st Z q (k + 1) = 2 := by rw [hs, h, h92]; rfl
      refine ⟨fun e => by omega, fun e => by omega, fun _ => ?_⟩
      rw [g, psAt_esc _ hl h92, nx_eq]; rfl
    · by_cases h34 : Z.getD (q + k) 0 = 34
      · have h1 : st Z q (k + 1) = 0 := by rw [hs, h, h34]; rfl
        refine ⟨fun _ => ?_, fun e => by omega, fun e => by omega⟩
        rw [g, psAt_quote _ hl h34]; rfl
      · have h1 : st Z q (k + 1) = 1 := by rw [hs, h, step_1 h92 h34]
        refine ⟨fun e => by omega, fun _ => ?_, fun e => by omega⟩
        rw [g]
        by_cases hb : Z.getD (q + k) 0 < 32 ∨ 126 < Z.getD (q + k) 0
        · rw [psAt_bad _ hl h34 h92 hb, nx_eq]; rfl
        · rw [psAt_ok _ hl h34 h92 (by omega) (by omega)]; rfl
  · have h1 : st Z q (k + 1) = 1 := by rw [hs, h]; rfl
    refine ⟨fun e => by omega, fun _ => ?_, fun e => by omega⟩
    rw [hi.2.2 h]; rfl

/-- What 'outside a string' says. -/
theorem ins_out {Z : List Int} {q k : Nat} (h : ins Z q k = false) : st Z q k = 0 ∧ Z.getD (q + k) 0 ≠ 34 := by
  unfold ins at h
  by_cases h1 : st Z q k = 0
  · refine ⟨h1, fun e => ?_⟩
    rw [e] at h; simp at h
  · simp [h1] at h

theorem ninv_out {Z : List Int} {q k : Nat} {d : Int} (hi : NInv Z q k d) (hl : q + k < Z.length) (hin : ins Z q k = false) (hd : dl (Z.getD (q + k) 0) d ≠ 0) : NInv Z q (k + 1) (dl (Z.getD (q + k) 0) d) := by
  obtain ⟨h0, h34⟩ := ins_out hin
  have h1 : st Z q (k + 1) = 0 := by show step (st Z q k) (Z.getD (q + k) 0) = 0; rw [h0, step_0 h34]
  refine ⟨fun _ => ?_, fun e => by omega, fun e => by omega⟩
  rw [hi.1 h0, pnAt_go d hl h34 hd]; rfl

theorem ninv_stop {Z : List Int} {q k : Nat} {d : Int} (hi : NInv Z q k d) (hl : q + k < Z.length) (hin : ins Z q k = false) (hd : dl (Z.getD (q + k) 0) d = 0) : pnAt Z q 0 = q + k + 1 := by
  obtain ⟨h0, h34⟩ := ins_out hin
  rw [hi.1 h0, pnAt_stop d hl h34 hd]

theorem ninv_end {Z : List Int} {q k : Nat} {d : Int} (hi : NInv Z q k d) (hl : q + k = Z.length) : pnAt Z q 0 = Z.length := by
  have hst := st_le Z q k
  rcases (by omega : st Z q k = 0 ∨ st Z q k = 1 ∨ st Z q k = 2) with h | h | h
  · rw [hi.1 h, pnAt_end _ (by omega)]; exact hl
  · rw [hi.2.1 h, psAt_end _ (by omega)]; exact pnAt_end _ (Nat.le_refl _)
  · rw [hi.2.2 h, psAt_end _ (by omega)]; exact pnAt_end _ (Nat.le_refl _)
end Go.Proofs.Qxb6602725a.Pl
