/-
  SEAT b6602904aD: the plain side of the token model: the width by bytes is 'headSpace'; the pass over the bytes gives the fields.
-/
import Derived.Test.Qxb6602904aDoorPlain
import Derived.Test.Qxb6602904aDoorWidth
namespace Go.Proofs.Qxb6602904aDoor
open Go.Lib

theorem seq_shape : ∀ q ∈ spaceSeqs,
    (q.length = 1 ∧ ((q.getD 0 0).toNat = 9 ∨ (q.getD 0 0).toNat = 10 ∨ (q.getD 0 0).toNat = 11 ∨ (q.getD 0 0).toNat = 12 ∨ (q.getD 0 0).toNat = 13 ∨ (q.getD 0 0).toNat = 32)) ∨
    (q.length = 2 ∧ (q.getD 0 0).toNat = 194 ∧ ((q.getD 1 0).toNat = 133 ∨ (q.getD 1 0).toNat = 160)) ∨
    (q.length = 3 ∧ (((q.getD 0 0).toNat = 225 ∧ (q.getD 1 0).toNat = 154 ∧ (q.getD 2 0).toNat = 128) ∨
      ((q.getD 0 0).toNat = 226 ∧ (q.getD 1 0).toNat = 128 ∧ ((128 ≤ (q.getD 2 0).toNat ∧ (q.getD 2 0).toNat ≤ 138) ∨ (q.getD 2 0).toNat = 168 ∨ (q.getD 2 0).toNat = 169 ∨ (q.getD 2 0).toNat = 175)) ∨
      ((q.getD 0 0).toNat = 226 ∧ (q.getD 1 0).toNat = 129 ∧ (q.getD 2 0).toNat = 159) ∨ ((q.getD 0 0).toNat = 227 ∧ (q.getD 1 0).toNat = 128 ∧ (q.getD 2 0).toNat = 128))) := by decide

theorem hs_seq (q t : List UInt8) (hq : q ∈ spaceSeqs) : headSpace (q ++ t) = q.length := by
  have hne : q ++ t ≠ [] := by
    intro h
    have := congrArg List.length h
    rw [List.length_append, List.length_nil] at this
    rcases seq_shape q hq with h1 | h1 | h1 <;> omega
  rw [headSpace_eq _ hne, if_pos (seq_decodes q hq t).1]
  exact (seq_decodes q hq t).2

theorem getD_pre {q l : List UInt8} (h : q <+: l) (k : Nat) (hk : k < q.length) : l.getD k 0 = q.getD k 0 := by
  obtain ⟨t, rfl⟩ := h
  rw [List.getD_eq_getElem?_getD, List.getElem?_append_left hk, List.getD_eq_getElem?_getD]

theorem u8n {b : UInt8} {n : Nat} (h : b.toNat = n) : b = UInt8.ofNat n := by rw [← h]; simp

theorem width_eq (l : List UInt8) (hl : l ≠ []) : (headSpace l : Int) = swW l.length ((l.getD 0 0).toNat : Int) ((l.getD 1 0).toNat : Int) ((l.getD 2 0).toNat : Int) := by
  by_cases h : headSpace l = 0
  · have no : ∀ q ∈ spaceSeqs, ∀ t, l ≠ q ++ t := by
      intro q hq t e
      rw [e, hs_seq q t hq] at h
      rcases seq_shape q hq with h1 | h1 | h1 <;> omega
    rw [h]
    unfold swW
    have hb : ∀ k, (l.getD k 0).toNat < 256 := fun k => UInt8.toNat_lt _
    cases l with
    | nil => exact absurd rfl hl
    | cons b0 l =>
      have e0 : ((b0 :: l).getD 0 0) = b0 := rfl
      rw [if_neg]
      · cases l with
        | nil => rw [if_neg (by simp), if_pos (by simp)]; rfl
        | cons b1 l =>
          have e1 : ((b0 :: b1 :: l).getD 1 0) = b1 := rfl
          rw [if_neg]
          · cases l with
            | nil => rw [if_pos (by simp)]; rfl
            | cons b2 l =>
              have e2 : ((b0 :: b1 :: b2 :: l).getD 2 0) = b2 := rfl
              rw [e0, e1, e2, if_neg (by simp), if_neg, if_neg, if_neg, if_neg]
              · rfl
              · rintro ⟨h0, h1, h2⟩
                have a0 := u8n (b := b0) (n := 227) (by omega); have a1 := u8n (b := b1) (n := 128) (by omega); have a2 := u8n (b := b2) (n := 128) (by omega)
                exact no [227, 128, 128] (by decide) l (by rw [a0, a1, a2]; rfl)
              · rintro ⟨h0, h1, h2⟩
                have a0 := u8n (b := b0) (n := 226) (by omega); have a1 := u8n (b := b1) (n := 129) (by omega); have a2 := u8n (b := b2) (n := 159) (by omega)
                exact no [226, 129, 159] (by decide) l (by rw [a0, a1, a2]; rfl)
              · rintro ⟨h0, h1, h2⟩
                have a0 := u8n (b := b0) (n := 226) (by omega); have a1 := u8n (b := b1) (n := 128) (by omega)
                exact no [226, 128, UInt8.ofNat b2.toNat] (mem3 ⟨b2.toNat, UInt8.toNat_lt b2⟩ (by show (128 ≤ b2.toNat ∧ b2.toNat ≤ 138) ∨ b2.toNat = 168 ∨ b2.toNat = 169 ∨ b2.toNat = 175; omega)) l (by rw [a0, a1, ← byte_of]; rfl)
              · rintro ⟨h0, h1, h2⟩
                have a0 := u8n (b := b0) (n := 225) (by omega); have a1 := u8n (b := b1) (n := 154) (by omega); have a2 := u8n (b := b2) (n := 128) (by omega)
                exact no [225, 154, 128] (by decide) l (by rw [a0, a1, a2]; rfl)
          · rw [e0, e1]
            rintro ⟨h0, _, h1⟩
            have a0 := u8n (b := b0) (n := 194) (by omega)
            exact no [194, UInt8.ofNat b1.toNat] (mem2 ⟨b1.toNat, UInt8.toNat_lt b1⟩ (by show b1.toNat = 133 ∨ b1.toNat = 160; omega)) l (by rw [a0, ← byte_of]; rfl)
      · rw [e0]
        intro h0
        exact no [UInt8.ofNat b0.toNat] (mem1 ⟨b0.toNat, UInt8.toNat_lt b0⟩ (by show (9 ≤ b0.toNat ∧ b0.toNat ≤ 13) ∨ b0.toNat = 32; omega)) l (by rw [← byte_of]; rfl)
  · obtain ⟨q, hf⟩ : ∃ q, spaceSeqs.find? (·.isPrefixOf l) = some q := by
      cases hf : spaceSeqs.find? (·.isPrefixOf l) with
      | none => exact absurd (by unfold headSpace; rw [hf]; rfl) h
      | some q => exact ⟨q, rfl⟩
    have hq : q ∈ spaceSeqs := List.mem_of_find?_eq_some hf
    have hp : q <+: l := by have := List.find?_some hf; simpa using this
    have hlen : headSpace l = q.length := by unfold headSpace; rw [hf]; rfl
    have hle := hp.length_le
    rw [hlen]
    unfold swW
    rcases seq_shape q hq with ⟨h1, h2⟩ | ⟨h1, h2, h3⟩ | ⟨h1, h2⟩
    · rw [getD_pre hp 0 (by omega), if_pos (by omega), h1]; rfl
    · rw [getD_pre hp 0 (by omega), getD_pre hp 1 (by omega), if_neg (by omega), if_pos (by omega), h1]; rfl
    · rw [getD_pre hp 0 (by omega), getD_pre hp 1 (by omega), getD_pre hp 2 (by omega), if_neg (by omega), if_neg (by omega), if_neg (by omega), h1]
      split
      · rfl
      · split
        · rfl
        · split
          · rfl
          · split
            · rfl
            · omega
end Go.Proofs.Qxb6602904aDoor
