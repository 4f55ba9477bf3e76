/-
  SEAT b6602725a: FnPastNestedLocal, walked.
-/
import Derived.Test.Qxb6602725aPastNest
import Derived.Test.Qxb6602725aPlainLoc
import Derived.Test.Qxb6602725aRoundTrip
namespace Go.Proofs.Qxb6602725a
open Go.RowKit

namespace fnPastNestedLocal
set_option maxHeartbeats 4000000 in
theorem walk_in (a0 : Option Addr) (len0 cap0 : Nat) (z0 : List Int) (i0 : Nat) (a1 : Option Addr) (len1 cap1 : Nat) (z1 : List Int) (a2 : Option Addr) (len2 cap2 : Nat) (z2 : List Int) (w : World) (w0 : IsRow .u8 w a0 len0 cap0 z0) (w1 : IsRow .u8 w a1 len1 cap1 z1) (w2 : IsRow .u8 w a2 len2 cap2 z2)
    (h0 : len0 ≤ 262144) (h1 : len1 ≤ 262144) (h2 : len2 ≤ 262144) (hi0 : i0 < len0) :
    Calls Try.prog 6 #[.slice a0 len0 cap0, .int .i64 i0, .slice a1 len1 cap1, .slice a2 len2 cap2] w fun e w' => e = .returned (.bool true) ∧ Below w.heap.size w w' := by
  have hlen0 := w0.len
  have hlen1 := w1.len
  have hlen2 := w2.len
  have W0 : Aside (IsRow .u8 w a0 len0 cap0 z0) := w0
  have W1 : Aside (IsRow .u8 w a1 len1 cap1 z1) := w1
  have W2 : Aside (IsRow .u8 w a2 len2 cap2 z2) := w2
  obtain ⟨Z, hA⟩ : ∃ A, A = z0.take len0 := ⟨_, rfl⟩
  obtain ⟨A, hC⟩ : ∃ A, A = z1.take len1 := ⟨_, rfl⟩
  obtain ⟨T, hT⟩ : ∃ A, A = z2.take len2 := ⟨_, rfl⟩
  rw [← hA] at hlen0
  rw [← hC] at hlen1
  rw [← hT] at hlen2
  have HA : Aside (Z = z0.take len0 ∧ A = z1.take len1 ∧ T = z2.take len2) := ⟨hA, hC, hT⟩
  clear hA hC hT w0 w1 w2
  obtain ⟨N, hres⟩ : ∃ r, Pl.pnAt Z i0 0 = r := ⟨_, rfl⟩
  have hN0 : i0 < N := by rw [← hres]; exact Pl.pnAt_gt 0 (by omega)
  have HR : Aside (Pl.pnAt Z i0 0 = N) := hres
  clear hres
  have d2 : decide ((i0 : Int) < 0) = false := decide_eq_false (by omega)
  obtain ⟨i5, hi, hz0, hz1, hz2⟩ := info_parts Try.info5
  go_enter Try.func6, Try.ntmps6
  go_wp2_with (go_at_call 13; go_in)
  refine (clone_any a0 len0 cap0 z0 _ W0.out (by omega)).mono ?_
  rintro e w1 ⟨t0, rfl, hb1, hX0⟩
  rw [← HA.out.1] at hX0
  have hX0 : Aside (TX w1 t0 Z) := hX0
  go_wp2_with fail
  refine (clone_any a1 len1 cap1 z1 _ (W1.out.below hb1) (by omega)).mono ?_
  rintro e w2 ⟨t1, rfl, hb2, hX1⟩
  rw [← HA.out.2.1] at hX1
  have hX1 : Aside (TX w2 t1 A) := hX1
  go_wp2_with fail
  refine (clone_any a2 len2 cap2 z2 _ ((W2.out.below hb1).below hb2) (by omega)).mono ?_
  rintro e w3 ⟨t2, rfl, hb3, hX2⟩
  rw [← HA.out.2.2] at hX2
  have hX0' : Aside (TX w3 t0 Z) := (hX0.out.below hb2).below hb3
  have hX1' : Aside (TX w3 t1 A) := hX1.out.below hb3
  have hX2' : Aside (TX w3 t2 T) := hX2
  have hB3 : Below w.heap.size w w3 := hb1.trans ((hb2.mono hb1.size).trans (hb3.mono (Nat.le_trans hb1.size hb2.size)))
  clear hX0 hX1 hX2 hb1 hb2 hb3 W0 W1 W2 HA
  go_wp2_with fail
  refine (zz_nest len0 len0 t0 Z _ i0 N hlen0 (by omega) hX0'.out HR).mono ?_
  rintro e w4 ⟨rfl, hb4⟩
  by_cases hN : len0 ≤ N
  · go_wp2
    go_ret
    exact ⟨rfl, hB3.trans (hb4.mono hB3.size)⟩
  have hX0 : Aside (TX w4 t0 Z) := hX0'.out.below hb4
  have hX1 : Aside (TX w4 t1 A) := hX1'.out.below hb4
  have hX2 : Aside (TX w4 t2 T) := hX2'.out.below hb4
  have hB4 : Below w.heap.size w w4 := hB3.trans (hb4.mono hB3.size)
  clear hX0' hX1' hX2' hb4 hB3
  obtain ⟨m, hm⟩ : ∃ m, i0 + m = N := ⟨N - i0, by omega⟩
  have em : (N : Int) - (i0 : Int) = (m : Int) := by omega
  have hNm : N - i0 = m := by omega
  have d3 : decide ((len0 : Int) ≤ (N : Int)) = false := decide_eq_false (by omega)
  have d4 : decide ((N : Int) ≤ (i0 : Int)) = false := decide_eq_false (by omega)
  go_wp2_with (at_make; refine wpList_make_own _ rfl _ _ 22 rfl w4.heap.size 5 i5 (.int .u8 0) 1 Try.underlying22 hi hz0 hz1 _ _ _ (len1 + m + len2) rfl rfl (by omega) (by rw [hz2]; omega) (by unfold maxLen; omega) (Nat.le_refl _) ?_)
  intro w5 hown hgrow
  have hb5 : Below w4.heap.size w4 w5 := (Below.refl _ _).grown hgrow (Nat.le_refl _) (fun k h => by cases h)
  have hX1'' : Aside (TX w5 t1 A) := hX1.out.below hb5
  clear hgrow
  go_wp2_with (at_builtin; refine wpList_append_fits_any _ rfl (.tmp 66) (.tmp 67) 22 rfl w4.heap.size 5 i5 1 Try.underlying22 hi hz1 w4.heap.size 0 _ _ rfl hown t1 len1 len1 (A.map (Value.int .u8)) rfl (by simp [hlen1]) (hX1''.out.nil0 hlen1) hX1''.out.news (ints_oneCell _ _) (by omega) ?_)
  intro w6 hown6 hgrow6
  have hb6 : Below w4.heap.size w4 w6 := hb5.grown hgrow6 hb5.size (fun k h => by cases h; exact Nat.le_refl _)
  clear hgrow6 hown hb5 hX1''
  obtain ⟨tb, off, ht1, ht2'⟩ := hX0.out.below hb6
  obtain rfl := ht1 (by omega)
  have hX : Aside (TX w6 (some ⟨tb, off + i0, none⟩) ((Z.drop i0).take m)) := by
    refine ⟨tb, off + i0, fun _ => rfl, fun k hk => ?_⟩
    have hk' : k < m := by simp at hk; omega
    rw [Nat.add_assoc, ht2' (i0 + k) (by omega)]
    simp [List.getD_eq_getElem?_getD, hk']
  have hXl : Aside (((Z.drop i0).take m).length = m) := by show _ = m; simp; omega
  clear ht1 ht2'
  go_wp2_with (at_builtin; refine wpList_append_fits_any _ rfl (.tmp 69) (.tmp 73) 22 rfl w4.heap.size 5 i5 1 Try.underlying22 hi hz1 w4.heap.size len1 _ _ rfl hown6 (some ⟨tb, off + i0, none⟩) m (len0 - i0) (((Z.drop i0).take m).map (Value.int .u8)) rfl (by simp only [List.length_map, Nat.mul_one]; exact hXl.out) (fun h => by cases h) hX.out.news (ints_oneCell _ _) (by omega) ?_)
  intro w7 hown7 hgrow7
  have hb7 : Below w4.heap.size w4 w7 := hb6.grown hgrow7 hb6.size (fun k h => by cases h; exact Nat.le_refl _)
  have hX2'' : Aside (TX w7 t2 T) := hX2.out.below hb7
  clear hgrow7 hown6 hb6 hX
  go_wp2_with (at_builtin; refine wpList_append_fits_any _ rfl (.tmp 75) (.tmp 76) 22 rfl w4.heap.size 5 i5 1 Try.underlying22 hi hz1 w4.heap.size (len1 + m) _ _ rfl hown7 t2 len2 len2 (T.map (Value.int .u8)) rfl (by simp [hlen2]) (hX2''.out.nil0 hlen2) hX2''.out.news (ints_oneCell _ _) (by omega) ?_)
  intro w8 hown8 hgrow8
  have hb8 : Below w4.heap.size w4 w8 := hb7.grown hgrow8 hb7.size (fun k h => by cases h; exact Nat.le_refl _)
  clear hgrow8 hown7 hb7 hX2''
  have hov3 : w8.ownsRow w4.heap.size 5 1 (.slice (some ⟨w4.heap.size, 0, none⟩) (len1 + m + len2) (len1 + m + len2)) (len1 + m + len2) ((A ++ (Z.drop i0).take m ++ T).map (Value.int .u8)) := by simpa using hown8
  clear hown8
  obtain ⟨hZl, hTX⟩ := TX.of_own hov3
  have HL : Aside (Pl.pnAt (A ++ (Z.drop i0).take m ++ T) len1 0 = len1 + m) := by
    show _ = _
    rw [← hNm]
    exact Pl.local_law hlen1 (by omega) HR.out (by omega)
  clear hov3
  go_wp2_with fail
  refine (zz_nest (len1 + m + len2) _ _ _ _ len1 (len1 + m) hZl (by omega) hTX HL).mono ?_
  rintro e w9 ⟨rfl, hb9⟩
  have hB : Below w.heap.size w w9 := hB4.trans ((hb8.mono hB4.size).trans (hb9.mono (Nat.le_trans hB4.size hb8.size)))
  have hX9 := (hX0.out.below hb8).below hb9
  obtain ⟨tb', off', ht1, ht2'⟩ := hX9
  obtain ⟨rfl, rfl⟩ : tb = tb' ∧ off = off' := by have := ht1 (by omega); simpa using this
  obtain ⟨c, hc⟩ : ∃ c, c = Z.getD i0 0 := ⟨_, rfl⟩
  obtain ⟨cl, hcl⟩ : ∃ c, c = Z.getD (N - 1) 0 := ⟨_, rfl⟩
  have hcx : w9.cell? ⟨tb, off + i0, none⟩ = some (.int .u8 c) := by rw [hc]; exact ht2' _ (by omega)
  have hcy : w9.cell? ⟨tb, off + (N - 1), none⟩ = some (.int .u8 cl) := by rw [hcl]; exact ht2' _ (by omega)
  have HC : Aside (c = Z.getD i0 0 ∧ cl = Z.getD (N - 1) 0) := ⟨hc, hcl⟩
  clear hc hcl ht1 ht2' hb8 hb9 hTX hZl hX0 hX1 hX2
  have e1 : ((N : Int) - 1).toNat = N - 1 := by omega
  have e2 : ((len1 : Int) + (m : Int) - (len1 : Int)) = (m : Int) := by omega
  have hfin : c = 91 ∨ c = 123 → 2 ≤ m ∧ (cl = 93 ∨ cl = 125) := by
    intro h
    have := Pl.open_last (Z := Z) (i := i0) (by rw [← HC.out.1]; exact h) (by omega) (by rw [HR.out]; omega)
    rw [HR.out, ← HC.out.2] at this
    exact ⟨by omega, this.2⟩
  have HF : Aside (c = 91 ∨ c = 123 → 2 ≤ m ∧ (cl = 93 ∨ cl = 125)) := hfin
  clear hfin HC HL HR
  by_cases h91 : c = 91
  · obtain ⟨hm2, hcl⟩ := HF.out (.inl h91)
    subst h91
    rcases hcl with rfl | rfl
    · go_wp2
      go_ret
      exact ⟨rfl, hB⟩
    · go_wp2
      go_ret
      exact ⟨rfl, hB⟩
  have b91 : (c == 91) = false := by simpa using h91
  by_cases h123 : c = 123
  · obtain ⟨hm2, hcl⟩ := HF.out (.inr h123)
    subst h123
    rcases hcl with rfl | rfl
    · go_wp2
      go_ret
      exact ⟨rfl, hB⟩
    · go_wp2
      go_ret
      exact ⟨rfl, hB⟩
  have b123 : (c == 123) = false := by simpa using h123
  go_wp2
  go_ret
  exact ⟨rfl, hB⟩

set_option maxHeartbeats 1000000 in
theorem walk (a0 : Option Addr) (len0 cap0 : Nat) (z0 : List Int) (a1 : Int) (a2 : Option Addr) (len2 cap2 : Nat) (z2 : List Int) (a3 : Option Addr) (len3 cap3 : Nat) (z3 : List Int) (w : World) (w0 : IsRow .u8 w a0 len0 cap0 z0) (w1 : (Lit.int .i64 a1).wf = true) (w2 : IsRow .u8 w a2 len2 cap2 z2) (w3 : IsRow .u8 w a3 len3 cap3 z3) :
    Calls Try.prog 6 #[.slice a0 len0 cap0, .int .i64 a1, .slice a2 len2 cap2, .slice a3 len3 cap3] w fun e w' => e = .returned (.bool true) ∧ Below w.heap.size w w' := by
  have m0 := w0.max
  have m1 := w2.max
  have m2 := w3.max
  by_cases h0 : len0 ≤ 262144
  · by_cases h1 : len2 ≤ 262144
    · by_cases h2 : len3 ≤ 262144
      · by_cases hp0 : a1 < 0
        · clear w0 w1 w2 w3
          go_enter Try.func6, Try.ntmps6
          go_wp2
          go_ret
          exact ⟨rfl, Below.refl _ _⟩
        · by_cases hp1 : (len0 : Int) ≤ a1
          · clear w0 w1 w2 w3
            go_enter Try.func6, Try.ntmps6
            go_wp2
            go_ret
            exact ⟨rfl, Below.refl _ _⟩
          · obtain ⟨i0, rfl⟩ := Int.eq_ofNat_of_zero_le (show 0 ≤ a1 by omega)
            exact walk_in a0 len0 cap0 z0 i0 a2 len2 cap2 z2 a3 len3 cap3 z3 w w0 w2 w3 h0 h1 h2 (by omega)
      · clear w0 w1 w2 w3
        go_enter Try.func6, Try.ntmps6
        go_wp2
        all_goals (go_ret; exact ⟨rfl, Below.refl _ _⟩)
    · clear w0 w1 w2 w3
      go_enter Try.func6, Try.ntmps6
      go_wp2
      all_goals (go_ret; exact ⟨rfl, Below.refl _ _⟩)
  · clear w0 w1 w2 w3
    go_enter Try.func6, Try.ntmps6
    go_wp2
    all_goals (go_ret; exact ⟨rfl, Below.refl _ _⟩)
end fnPastNestedLocal
end Go.Proofs.Qxb6602725a
