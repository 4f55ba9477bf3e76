/-
  SEAT b6602725a: FnPastStringRoundTrip, walked.
-/
import Derived.Test.Qxb6602725aShims
import Derived.Test.Qxb6602725aPlainRt
import Derived.Deep.CutBlock
import Derived.Deep.DeepCutAuto
namespace Go.Proofs.Qxb6602725a
open Go.RowKit

theorem IsRow.max {k : IntKind} {w : World} {a : Option Addr} {len cap : Nat} {zs : List Int} (h : IsRow k w a len cap zs) : len ≤ 9223372036854775807 := by
  rcases h with ⟨_, rfl, _⟩ | ⟨x, _, h2, h3, _⟩
  · exact Nat.zero_le _
  · unfold maxLen at h3; omega

theorem TX.nil0 {w : World} {a : Option Addr} {Z : List Int} {len : Nat} (h : TX w a Z) (hl : Z.length = len) : a = none → len = 0 ∧ len = 0 := by
  obtain ⟨tb, off, h1, _⟩ := h
  intro ha
  by_cases hz : 0 < Z.length
  · have := h1 hz; rw [ha] at this; cases this
  · omega

theorem TX.news {w : World} {a : Option Addr} {Z : List Int} (h : TX w a Z) : ∀ ad, a = some ad → ∀ j u, (Z.map (Value.int .u8))[j]? = some u → w.cell? (ad.add j) = some u := by
  obtain ⟨tb, off, h1, h2⟩ := h
  intro ad had j u hu
  have hj : j < Z.length := by have := (List.getElem?_eq_some_iff.1 hu).1; simpa using this
  have e := h1 (by omega)
  rw [had] at e
  obtain rfl := Option.some.inj e
  rw [WideShapes.add_plain, h2 j hj]
  rw [List.getElem?_map, List.getElem?_eq_getElem hj] at hu
  simp at hu
  rw [← hu]; simp [hj]

theorem one_cell (c : Int) : ∀ u ∈ [Value.int .u8 c], u.oneCell' = true := by
  intro u hu; simp at hu; subst hu; rfl

theorem TX.of_own {w : World} {base g n cap : Nat} {Z : List Int} (h : w.ownsRow base 5 1 (.slice (some ⟨g, 0, none⟩) n cap) n (Z.map (Value.int .u8))) : Z.length = n ∧ TX w (some ⟨g, 0, none⟩) Z := by
  have hn : Z.length = n := by have := h.1; simpa using this
  refine ⟨hn, g, 0, fun _ => rfl, fun k hk => ?_⟩
  rw [Nat.zero_add, h.cellAt k (by omega), List.getElem?_map, List.getElem?_eq_getElem hk]; simp [hk]

namespace fnPastStringRoundTrip
set_option maxHeartbeats 4000000 in
theorem walk_in (a0 : Option Addr) (len0 cap0 : Nat) (z0 : List Int) (a1 : Option Addr) (len1 cap1 : Nat) (z1 : List Int) (a2 : Option Addr) (len2 cap2 : Nat) (z2 : List Int) (w : World) (w0 : IsRow .u8 w a0 len0 cap0 z0) (w1 : IsRow .u8 w a1 len1 cap1 z1) (w2 : IsRow .u8 w a2 len2 cap2 z2)
    (h0 : len0 ≤ 262144) (h1 : len1 ≤ 262144) (h2 : len2 ≤ 262144) :
    Calls Try.prog 4 #[.slice a0 len0 cap0, .slice a1 len1 cap1, .slice a2 len2 cap2] w fun e w' => e = .returned (.bool true) ∧ Below w.heap.size w w' := by
  have hlen0 := w0.len
  have hlen1 := w1.len
  have hlen2 := w2.len
  have W0 : Aside (IsRow .u8 w a0 len0 cap0 z0) := w0
  have W1 : Aside (IsRow .u8 w a1 len1 cap1 z1) := w1
  have W2 : Aside (IsRow .u8 w a2 len2 cap2 z2) := w2
  obtain ⟨A, hA⟩ : ∃ A, A = z0.take len0 := ⟨_, rfl⟩
  obtain ⟨C, hC⟩ : ∃ A, A = z1.take len1 := ⟨_, rfl⟩
  obtain ⟨T, hT⟩ : ∃ A, A = z2.take len2 := ⟨_, rfl⟩
  rw [← hA] at hlen0
  rw [← hC] at hlen1
  rw [← hT] at hlen2
  have HA : Aside (A = z0.take len0 ∧ C = z1.take len1 ∧ T = z2.take len2) := ⟨hA, hC, hT⟩
  clear hA hC hT w0 w1 w2
  obtain ⟨i0, hi, hz0, hz1, hz2⟩ := info_parts Try.info5
  go_enter Try.func4, Try.ntmps4
  go_wp2_with (go_at_call 10; go_in)
  refine (clone_any a0 len0 cap0 z0 _ W0.out (by omega)).mono ?_
  rintro e w1 ⟨t0, rfl, hb1, hX0⟩
  rw [← HA.out.1] at hX0
  have hX0 : Aside (TX w1 t0 A) := hX0
  go_wp2_with fail
  refine (clone_any a1 len1 cap1 z1 _ (W1.out.below hb1) (by omega)).mono ?_
  rintro e w2 ⟨t1, rfl, hb2, hX1⟩
  rw [← HA.out.2.1] at hX1
  have hX1 : Aside (TX w2 t1 C) := hX1
  go_wp2_with fail
  refine (clone_any a2 len2 cap2 z2 _ ((W2.out.below hb1).below hb2) (by omega)).mono ?_
  rintro e w3 ⟨t2, rfl, hb3, hX2⟩
  rw [← HA.out.2.2] at hX2
  have hX0' : Aside (TX w3 t0 A) := (hX0.out.below hb2).below hb3
  have hX1' : Aside (TX w3 t1 C) := hX1.out.below hb3
  have hX2' : Aside (TX w3 t2 T) := hX2
  have hB3 : Below w.heap.size w w3 := hb1.trans ((hb2.mono hb1.size).trans (hb3.mono (Nat.le_trans hb1.size hb2.size)))
  clear hX0 hX1 hX2 hb1 hb2 hb3 W0 W1 W2 HA
  go_wp2_with (at_make; refine wpList_make_own _ rfl _ _ 22 rfl w3.heap.size 5 i0 (.int .u8 0) 1 Try.underlying22 hi hz0 hz1 _ _ _ (len0 + 2 * len1 + 2 + len2) rfl rfl (by omega) (by rw [hz2]; omega) (by unfold maxLen; omega) (Nat.le_refl _) ?_)
  intro w4 hown hgrow
  have hb4 : Below w3.heap.size w3 w4 := (Below.refl _ _).grown hgrow (Nat.le_refl _) (fun k h => by cases h)
  have hX0'' : Aside (TX w4 t0 A) := hX0'.out.below hb4
  clear hgrow
  go_wp2_with (at_builtin; refine wpList_append_fits_any _ rfl _ _ 22 rfl w3.heap.size 5 i0 1 Try.underlying22 hi hz1 w3.heap.size 0 _ _ rfl hown t0 len0 len0 (A.map (Value.int .u8)) rfl (by simp [hlen0]) (hX0''.out.nil0 hlen0) hX0''.out.news (ints_oneCell _ _) (by omega) ?_)
  intro w5 hown5 hgrow5
  have hsz4 : w3.heap.size ≤ w4.heap.size := hb4.size
  have hb5 : Below w3.heap.size w3 w5 := hb4.grown hgrow5 hsz4 (fun k h => by cases h; exact Nat.le_refl _)
  clear hgrow5 hown hb4 hX0'' hsz4
  go_wp2_with (at_builtin; refine wpList_append_fits _ rfl _ _ 22 rfl w3.heap.size 5 i0 1 Try.underlying22 hi hz1 w3.heap.size len0 _ _ rfl (hown5.alloc _) ⟨w5.heap.size, 0, none⟩ 1 1 [.int .u8 34] rfl rfl (cell_one_new _ _ _) (one_cell 34) (by omega) ?_)
  intro w6 hown6 hgrow6
  have hb6 : Below w3.heap.size w3 w6 := (hb5.alloc hb5.size _).grown hgrow6 (by have := hb5.size; simp; omega) (fun k h => by cases h; exact Nat.le_refl _)
  clear hgrow6 hown5 hb5
  have HO6 : w6.ownsRow w3.heap.size 5 1 (.slice (some ⟨w3.heap.size, 0, none⟩) (len0 + 1) (len0 + 2 * len1 + 2 + len2)) (len0 + 1) ((A ++ 34 :: Pl.esc (C.take 0)).map (Value.int .u8)) := by simpa [Pl.esc_nil] using hown6
  clear hown6
  go_wp2_with fail
  go_loopw [7, 8, 9] (fun tx wp is wr => ∃ k n : Nat, k ≤ len1 ∧ n ≤ len0 + 1 + 2 * k ∧ is = .int .i64 (k : Int) ∧ tx = .slice (some ⟨w3.heap.size, 0, none⟩) n (len0 + 2 * len1 + 2 + len2) ∧ wp = .bool (Pl.okAll (C.take k)) ∧ Below w3.heap.size w3 wr ∧
      wr.ownsRow w3.heap.size 5 1 (.slice (some ⟨w3.heap.size, 0, none⟩) n (len0 + 2 * len1 + 2 + len2)) n ((A ++ 34 :: Pl.esc (C.take k)).map (Value.int .u8))) (fun _ _ is _ => len1 - (intOf is).toNat)
  case atStart => exact ⟨0, len0 + 1, Nat.zero_le _, by omega, rfl, rfl, rfl, hb6, HO6⟩
  case round =>
    obtain ⟨k, n, hk, hn, rfl, rfl, rfl, hbr, hor⟩ := hrel
    clear HO6 hb6
    have hX1'' : Aside (TX wr t1 C) := hX1'.out.below hbr
    by_cases hlt : k < len1
    · obtain ⟨tb, off, ht1, ht2⟩ := hX1''.out
      obtain rfl := ht1 (by omega)
      obtain ⟨c, hc⟩ : ∃ c, c = C.getD k 0 := ⟨_, rfl⟩
      have hcx : wr.cell? ⟨tb, off + k, none⟩ = some (.int .u8 c) := by rw [hc]; exact ht2 _ (by omega)
      have HC : Aside (c = C.getD k 0) := hc
      clear hc ht2
      by_cases h34 : c = 34
      · subst h34
        go_wp2_with (at_builtin; refine wpList_append_fits _ rfl (.tmp 72) (.tmp 73) 22 rfl w3.heap.size 5 i0 1 Try.underlying22 hi hz1 w3.heap.size n _ _ rfl (hor.alloc _) ⟨wr.heap.size, 0, none⟩ 1 1 [.int .u8 92] rfl rfl (cell_one_new _ _ _) (one_cell 92) (by omega) ?_)
        intro v1 hov1 hgv1
        have hbv1 : Below w3.heap.size w3 v1 := (hbr.alloc hbr.size _).grown hgv1 (by have := hbr.size; simp; omega) (fun k h => by cases h; exact Nat.le_refl _)
        clear hgv1
        go_wp2_with (at_builtin; refine wpList_append_fits _ rfl (.tmp 81) (.tmp 83) 22 rfl w3.heap.size 5 i0 1 Try.underlying22 hi hz1 w3.heap.size (n + 1) _ _ rfl (hov1.alloc _) ⟨v1.heap.size, 0, none⟩ 1 1 [.int .u8 34] rfl rfl (cell_one_new _ _ _) (one_cell 34) (by omega) ?_)
        intro v2 hov2 hgv2
        have hbv2 : Below w3.heap.size w3 v2 := (hbv1.alloc hbv1.size _).grown hgv2 (by have := hbv1.size; simp; omega) (fun k h => by cases h; exact Nat.le_refl _)
        clear hgv2
        go_wp2
        go_roundw
        case rel =>
          have E := Pl.esc_step_q (A := A) (by omega) HC.out (.inl rfl)
          refine ⟨k + 1, n + 1 + 1, by omega, by omega, by go_num, rfl, by rw [E.2], hbv2, ?_⟩
          rw [E.1]; simpa using hov2
        case measure => simp [intOf]; omega
      · have b34 : (c == 34) = false := by simpa using h34
        by_cases h92 : c = 92
        · subst h92
          clear h34
          go_wp2_with (at_builtin; refine wpList_append_fits _ rfl (.tmp 72) (.tmp 73) 22 rfl w3.heap.size 5 i0 1 Try.underlying22 hi hz1 w3.heap.size n _ _ rfl (hor.alloc _) ⟨wr.heap.size, 0, none⟩ 1 1 [.int .u8 92] rfl rfl (cell_one_new _ _ _) (one_cell 92) (by omega) ?_)
          intro v1 hov1 hgv1
          have hbv1 : Below w3.heap.size w3 v1 := (hbr.alloc hbr.size _).grown hgv1 (by have := hbr.size; simp; omega) (fun k h => by cases h; exact Nat.le_refl _)
          clear hgv1
          go_wp2_with (at_builtin; refine wpList_append_fits _ rfl (.tmp 81) (.tmp 83) 22 rfl w3.heap.size 5 i0 1 Try.underlying22 hi hz1 w3.heap.size (n + 1) _ _ rfl (hov1.alloc _) ⟨v1.heap.size, 0, none⟩ 1 1 [.int .u8 92] rfl rfl (cell_one_new _ _ _) (one_cell 92) (by omega) ?_)
          intro v2 hov2 hgv2
          have hbv2 : Below w3.heap.size w3 v2 := (hbv1.alloc hbv1.size _).grown hgv2 (by have := hbv1.size; simp; omega) (fun k h => by cases h; exact Nat.le_refl _)
          clear hgv2
          go_wp2
          go_roundw
          case rel =>
            have E := Pl.esc_step_q (A := A) (by omega) HC.out (.inr rfl)
            refine ⟨k + 1, n + 1 + 1, by omega, by omega, by go_num, rfl, by rw [E.2], hbv2, ?_⟩
            rw [E.1]; simpa using hov2
          case measure => simp [intOf]; omega
        · have b92 : (c == 92) = false := by simpa using h92
          by_cases hbad : c < 32 ∨ 126 < c
          · rcases hbad with hbad | hbad
            · go_wp2_with (at_builtin; refine wpList_append_fits _ rfl (.tmp 81) (.tmp 83) 22 rfl w3.heap.size 5 i0 1 Try.underlying22 hi hz1 w3.heap.size n _ _ rfl (hor.alloc _) ⟨wr.heap.size, 0, none⟩ 1 1 [.int .u8 c] rfl rfl (cell_one_new _ _ _) (one_cell c) (by omega) ?_)
              intro v2 hov2 hgv2
              have hbv2 : Below w3.heap.size w3 v2 := (hbr.alloc hbr.size _).grown hgv2 (by have := hbr.size; simp; omega) (fun k h => by cases h; exact Nat.le_refl _)
              clear hgv2
              go_wp2
              go_roundw
              case rel =>
                have E := Pl.esc_step_bad (A := A) (by omega) HC.out h34 h92 (.inl hbad)
                refine ⟨k + 1, n + 1, by omega, by omega, by go_num, rfl, by rw [E.2], hbv2, ?_⟩
                rw [E.1]; simpa using hov2
              case measure => simp [intOf]; omega
            · have b32 : ¬ c < 32 := by omega
              go_wp2_with (at_builtin; refine wpList_append_fits _ rfl (.tmp 81) (.tmp 83) 22 rfl w3.heap.size 5 i0 1 Try.underlying22 hi hz1 w3.heap.size n _ _ rfl (hor.alloc _) ⟨wr.heap.size, 0, none⟩ 1 1 [.int .u8 c] rfl rfl (cell_one_new _ _ _) (one_cell c) (by omega) ?_)
              intro v2 hov2 hgv2
              have hbv2 : Below w3.heap.size w3 v2 := (hbr.alloc hbr.size _).grown hgv2 (by have := hbr.size; simp; omega) (fun k h => by cases h; exact Nat.le_refl _)
              clear hgv2
              go_wp2
              go_roundw
              case rel =>
                have E := Pl.esc_step_bad (A := A) (by omega) HC.out h34 h92 (.inr hbad)
                refine ⟨k + 1, n + 1, by omega, by omega, by go_num, rfl, by rw [E.2], hbv2, ?_⟩
                rw [E.1]; simpa using hov2
              case measure => simp [intOf]; omega
          · have b32 : ¬ c < 32 := by omega
            have b126 : ¬ 126 < c := by omega
            clear hbad
            go_wp2_with (at_builtin; refine wpList_append_fits _ rfl (.tmp 81) (.tmp 83) 22 rfl w3.heap.size 5 i0 1 Try.underlying22 hi hz1 w3.heap.size n _ _ rfl (hor.alloc _) ⟨wr.heap.size, 0, none⟩ 1 1 [.int .u8 c] rfl rfl (cell_one_new _ _ _) (one_cell c) (by omega) ?_)
            intro v2 hov2 hgv2
            have hbv2 : Below w3.heap.size w3 v2 := (hbr.alloc hbr.size _).grown hgv2 (by have := hbr.size; simp; omega) (fun k h => by cases h; exact Nat.le_refl _)
            clear hgv2
            go_wp2
            go_roundw
            case rel =>
              have E := Pl.esc_step_ok (A := A) (by omega) HC.out h34 h92 (by omega) (by omega)
              refine ⟨k + 1, n + 1, by omega, by omega, by go_num, rfl, by rw [E.2], hbv2, ?_⟩
              rw [E.1]; simpa using hov2
            case measure => simp [intOf]; omega
    · obtain rfl : k = len1 := by omega
      go_wp2_with (at_builtin; refine wpList_append_fits _ rfl (.tmp 85) (.tmp 86) 22 rfl w3.heap.size 5 i0 1 Try.underlying22 hi hz1 w3.heap.size n _ _ rfl (hor.alloc _) ⟨wr.heap.size, 0, none⟩ 1 1 [.int .u8 34] rfl rfl (cell_one_new _ _ _) (one_cell 34) (by omega) ?_)
      intro v1 hov1 hgv1
      have hbv1 : Below w3.heap.size w3 v1 := (hbr.alloc hbr.size _).grown hgv1 (by have := hbr.size; simp; omega) (fun k h => by cases h; exact Nat.le_refl _)
      have hX2'' : Aside (TX v1 t2 T) := hX2'.out.below hbv1
      clear hgv1
      go_wp2_with (at_builtin; refine wpList_append_fits_any _ rfl (.tmp 90) (.tmp 91) 22 rfl w3.heap.size 5 i0 1 Try.underlying22 hi hz1 w3.heap.size (n + 1) _ _ rfl hov1 t2 len2 len2 (T.map (Value.int .u8)) rfl (by simp [hlen2]) (hX2''.out.nil0 hlen2) hX2''.out.news (ints_oneCell _ _) (by omega) ?_)
      intro v2 hov2 hgv2
      have hbv2 : Below w3.heap.size w3 v2 := hbv1.grown hgv2 hbv1.size (fun k h => by cases h; exact Nat.le_refl _)
      clear hgv2 hov1
      have hov3 : v2.ownsRow w3.heap.size 5 1 (.slice (some ⟨w3.heap.size, 0, none⟩) (n + 1 + len2) (len0 + 2 * k + 2 + len2)) (n + 1 + len2) ((A ++ 34 :: Pl.esc (C.take k) ++ [34] ++ T).map (Value.int .u8)) := by simpa using hov2
      clear hov2
      obtain ⟨hZl, hTX⟩ := TX.of_own hov3
      have hnn : n = len0 + 1 + (Pl.esc (C.take k)).length := by have := hor.1; simp [hlen0] at this; omega
      have HR : Aside (Pl.psAt (A ++ 34 :: Pl.esc (C.take k) ++ [34] ++ T) (len0 + 1) true = (Pl.okAll (C.take k), true, n + 1)) := by
        show _ = _
        rw [Pl.back' A (C.take k) T len0 hlen0, hnn]
      have hn0 : len0 ≤ n := by omega
      clear hnn hov3
      go_wp2_with fail
      refine (zz_past (n + 1 + len2) _ _ _ _ len0 (Pl.okAll (C.take k)) true (n + 1) hZl (by omega) (by omega) hTX HR).mono ?_
      rintro e v3 ⟨rfl, hb3⟩
      have hB : Below w.heap.size w v3 := hB3.trans ((hbv2.mono hB3.size).trans (hb3.mono (Nat.le_trans hB3.size hbv2.size)))
      go_wp2
      go_ret
      exact ⟨rfl, hB⟩

set_option maxHeartbeats 1000000 in
theorem walk (a0 : Option Addr) (len0 cap0 : Nat) (z0 : List Int) (a1 : Option Addr) (len1 cap1 : Nat) (z1 : List Int) (a2 : Option Addr) (len2 cap2 : Nat) (z2 : List Int) (w : World) (w0 : IsRow .u8 w a0 len0 cap0 z0) (w1 : IsRow .u8 w a1 len1 cap1 z1) (w2 : IsRow .u8 w a2 len2 cap2 z2) :
    Calls Try.prog 4 #[.slice a0 len0 cap0, .slice a1 len1 cap1, .slice a2 len2 cap2] w fun e w' => e = .returned (.bool true) ∧ Below w.heap.size w w' := by
  have m0 := w0.max
  have m1 := w1.max
  have m2 := w2.max
  by_cases h0 : len0 ≤ 262144
  · by_cases h1 : len1 ≤ 262144
    · by_cases h2 : len2 ≤ 262144
      · exact walk_in a0 len0 cap0 z0 a1 len1 cap1 z1 a2 len2 cap2 z2 w w0 w1 w2 h0 h1 h2
      · clear w0 w1 w2
        go_enter Try.func4, Try.ntmps4
        go_wp2
        all_goals (go_ret; exact ⟨rfl, Below.refl _ _⟩)
    · clear w0 w1 w2
      go_enter Try.func4, Try.ntmps4
      go_wp2
      all_goals (go_ret; exact ⟨rfl, Below.refl _ _⟩)
  · clear w0 w1 w2
    go_enter Try.func4, Try.ntmps4
    go_wp2
    all_goals (go_ret; exact ⟨rfl, Below.refl _ _⟩)
end fnPastStringRoundTrip
end Go.Proofs.Qxb6602725a
