/-
  THE PLAIN SIDE OF FnPastNestedLocal: pastNested reads no byte beyond where it stops.
-/
import Derived.Test.Qxb6602725aPlainNest
namespace Go.Proofs.Qxb6602725a.Pl

/-- m bytes of Z from i on are those of Y from j on. -/
def Agree (Z : List Int) (i : Nat) (Y : List Int) (j m : Nat) : Prop := i + m ≤ Z.length ∧ j + m ≤ Y.length ∧ ∀ k, k < m → Z.getD (i + k) 0 = Y.getD (j + k) 0

theorem Agree.tail {Z Y : List Int} {i j m : Nat} (h : Agree Z i Y j m) (a n : Nat) (hn : a + n ≤ m) : Agree Z (i + a) Y (j + a) n :=
  ⟨by have := h.1; omega, by have := h.2.1; omega, fun k hk => by
    have := h.2.2 (a + k) (by omega)
    rw [Nat.add_assoc, Nat.add_assoc]; exact this⟩

theorem psAt_local (Z Y : List Int) : ∀ (m i j : Nat) (p q : Bool), psAt Z i p = (q, true, i + m) → Agree Z i Y j m → psAt Y j p = (q, true, j + m) := by
  intro m
  induction m using Nat.strongRecOn with
  | _ m ih =>
    intro i j p q h ha
    have hlt : i < Z.length := by
      by_cases hi : i < Z.length
      · exact hi
      · rw [psAt_end p (by omega)] at h; simp at h
    have hm : 0 < m := by
      have b := (psAt_bounds Z i p).2.2.2 (by rw [h])
      rw [h] at b; simp at b; omega
    have hlt2 : j < Y.length := by have := ha.2.1; omega
    have hc : Z.getD i 0 = Y.getD j 0 := by simpa using ha.2.2 0 hm
    by_cases h34 : Z.getD i 0 = 34
    · rw [psAt_quote p hlt h34] at h
      simp at h
      obtain ⟨rfl, h⟩ := h
      rw [psAt_quote p hlt2 (by rw [← hc]; exact h34)]
      simp; omega
    · have h34' : Y.getD j 0 ≠ 34 := by rw [← hc]; exact h34
      by_cases h92 : Z.getD i 0 = 92
      · rw [psAt_esc p hlt h92] at h
        rw [psAt_esc p hlt2 (by rw [← hc]; exact h92)]
        have b := (psAt_bounds Z (i + 2) false).2.2.2 (by rw [h])
        rw [h] at b; simp at b
        rw [ih (m - 2) (by omega) (i + 2) (j + 2) false q (by rw [h]; simp; omega) (ha.tail 2 (m - 2) (by omega))]
        simp; omega
      · have h92' : Y.getD j 0 ≠ 92 := by rw [← hc]; exact h92
        by_cases hb : Z.getD i 0 < 32 ∨ 126 < Z.getD i 0
        · rw [psAt_bad p hlt h34 h92 hb] at h
          rw [psAt_bad p hlt2 h34' h92' (by rw [← hc]; exact hb)]
          have b := (psAt_bounds Z (i + 1) false).2.2.2 (by rw [h])
          rw [h] at b; simp at b
          rw [ih (m - 1) (by omega) (i + 1) (j + 1) false q (by rw [h]; simp; omega) (ha.tail 1 (m - 1) (by omega))]
          simp; omega
        · rw [psAt_ok p hlt h34 h92 (by omega) (by omega)] at h
          rw [psAt_ok p hlt2 h34' h92' (by omega) (by omega)]
          have b := (psAt_bounds Z (i + 1) p).2.2.2 (by rw [h])
          rw [h] at b; simp at b
          rw [ih (m - 1) (by omega) (i + 1) (j + 1) p q (by rw [h]; simp; omega) (ha.tail 1 (m - 1) (by omega))]
          simp; omega

theorem pnAt_gt {Z : List Int} {i : Nat} (d : Int) (h : i < Z.length) : i < pnAt Z i d := by
  by_cases h34 : Z.getD i 0 = 34
  · rw [pnAt_quote d h h34]
    have b := nx_bounds Z i h
    have := pnAt_le Z (nx Z i) d b.2; omega
  · by_cases hd : dl (Z.getD i 0) d = 0
    · rw [pnAt_stop d h h34 hd]; omega
    · rw [pnAt_go d h h34 hd]
      have := pnAt_le Z (i + 1) (dl (Z.getD i 0) d) (by omega); omega

theorem pnAt_local (Z Y : List Int) : ∀ (m i j : Nat) (d : Int), pnAt Z i d = i + m → i + m < Z.length → Agree Z i Y j m → pnAt Y j d = j + m := by
  intro m
  induction m using Nat.strongRecOn with
  | _ m ih =>
    intro i j d h hlt ha
    have hi : i < Z.length := by omega
    have hm : 0 < m := by have := pnAt_gt d hi; omega
    have hj : j < Y.length := by have := ha.2.1; omega
    have hc : Z.getD i 0 = Y.getD j 0 := by simpa using ha.2.2 0 hm
    by_cases h34 : Z.getD i 0 = 34
    · rw [pnAt_quote d hi h34] at h
      have b := nx_bounds Z i hi
      have b2 := pnAt_le Z (nx Z i) d b.2
      have be := psAt_bounds Z (i + 1) true
      obtain ⟨⟨P, E, M⟩, hps⟩ : ∃ r, psAt Z (i + 1) true = r := ⟨_, rfl⟩
      have hM : nx Z i = M := by unfold nx; rw [hps]
      rw [hps] at be
      simp only at be
      have hE : E = true := by
        cases E with
        | true => rfl
        | false => have := be.2.2.1 rfl; omega
      subst hE
      obtain ⟨m', hm'⟩ : ∃ m', M = i + 1 + m' := ⟨M - (i + 1), by have := be.2.2.2 rfl; omega⟩
      have l1 := psAt_local Z Y m' (i + 1) (j + 1) true P (by rw [hps, hm']) (ha.tail 1 m' (by omega))
      have hnx : nx Y j = j + 1 + m' := by unfold nx; rw [l1]
      rw [pnAt_quote d hj (by rw [← hc]; exact h34), hnx]
      rw [hM, hm'] at h b2
      have := ih (m - (1 + m')) (by omega) (i + 1 + m') (j + 1 + m') d (by rw [h]; omega) (by omega) (by
        rw [Nat.add_assoc, Nat.add_assoc]; exact ha.tail (1 + m') _ (by omega))
      rw [this]; omega
    · have h34' : Y.getD j 0 ≠ 34 := by rw [← hc]; exact h34
      by_cases hd : dl (Z.getD i 0) d = 0
      · rw [pnAt_stop d hi h34 hd] at h
        rw [pnAt_stop d hj h34' (by rw [← hc]; exact hd)]; omega
      · rw [pnAt_go d hi h34 hd] at h
        rw [pnAt_go d hj h34' (by rw [← hc]; exact hd), ← hc]
        have := ih (m - 1) (by omega) (i + 1) (j + 1) (dl (Z.getD i 0) d) (by rw [h]; omega) (by omega) (ha.tail 1 _ (by omega))
        rw [this]; omega

/-- From inside a bracket it stops just past a closing one. -/
theorem pn_last (Z : List Int) : ∀ (f i : Nat) (d : Int), Z.length - i ≤ f → 1 ≤ d → pnAt Z i d < Z.length → i < pnAt Z i d ∧ (Z.getD (pnAt Z i d - 1) 0 = 93 ∨ Z.getD (pnAt Z i d - 1) 0 = 125) := by
  intro f
  induction f with
  | zero => intro i d hf _ h; rw [pnAt_end d (by omega)] at h; omega
  | succ f ih =>
    intro i d hf hd h
    have hi : i < Z.length := by
      by_cases hi : i < Z.length
      · exact hi
      · rw [pnAt_end d (by omega)] at h; exact h
    by_cases h34 : Z.getD i 0 = 34
    · rw [pnAt_quote d hi h34] at h ⊢
      have b := nx_bounds Z i hi
      have := ih (nx Z i) d (by omega) hd h
      exact ⟨by omega, this.2⟩
    · by_cases h0 : dl (Z.getD i 0) d = 0
      · rw [pnAt_stop d hi h34 h0] at h ⊢
        refine ⟨by omega, ?_⟩
        by_cases h1 : Z.getD i 0 = 93 ∨ Z.getD i 0 = 125
        · simpa using h1
        · exfalso
          unfold dl at h0
          rw [if_neg h1] at h0
          split at h0 <;> omega
      · have h1 : 1 ≤ dl (Z.getD i 0) d := by
          unfold dl at h0 ⊢
          split at h0
          · rw [if_pos (by assumption)]; omega
          · rw [if_neg (by assumption)]
            split at h0
            · rw [if_pos (by assumption)]; omega
            · rw [if_neg (by assumption)]; omega
        rw [pnAt_go d hi h34 h0] at h ⊢
        have := ih (i + 1) (dl (Z.getD i 0) d) (by omega) h1 h
        exact ⟨by omega, this.2⟩

theorem open_last {Z : List Int} {i : Nat} (ho : Z.getD i 0 = 91 ∨ Z.getD i 0 = 123) (hi : i < Z.length) (h : pnAt Z i 0 < Z.length) : i + 2 ≤ pnAt Z i 0 ∧ (Z.getD (pnAt Z i 0 - 1) 0 = 93 ∨ Z.getD (pnAt Z i 0 - 1) 0 = 125) := by
  have e : dl (Z.getD i 0) 0 = 1 := by rw [dl_up 0 ho]; rfl
  have h34 : Z.getD i 0 ≠ 34 := by omega
  rw [pnAt_go 0 hi h34 (by rw [e]; omega), e] at h ⊢
  have := pn_last Z _ (i + 1) 1 (Nat.le_refl _) (by omega) h
  exact ⟨by omega, this.2⟩

/-- The second text: another prefix, the stretch, another tail. -/
theorem local_law {Z A T : List Int} {i la e : Nat} (hA : A.length = la) (hi : i < Z.length) (he : pnAt Z i 0 = e) (hl : e < Z.length) : pnAt (A ++ (Z.drop i).take (e - i) ++ T) la 0 = la + (e - i) := by
  have hg := pnAt_gt 0 hi
  refine pnAt_local Z _ (e - i) i la 0 (by omega) (by omega) ⟨by omega, by simp; omega, fun k hk => ?_⟩
  simp only [List.getD_eq_getElem?_getD]
  rw [List.append_assoc, List.getElem?_append_right (by omega), List.getElem?_append_left (by simp; omega), List.getElem?_take, if_pos (by omega), List.getElem?_drop]
  congr 2
  omega
end Go.Proofs.Qxb6602725a.Pl
