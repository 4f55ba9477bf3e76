/-
  SEAT b6602904a: FnHoldsOverConcatenation, walked.
-/
import Derived.Test.Qxb6602904aBase
import Derived.Deep.CutBlock
import Derived.Deep.DeepCutAuto
namespace Go.Proofs.Qxb6602904a
open Go.RowKit

theorem TS.of_own {w : World} {base g n cap : Nat} {S : List ByteArray} (h : w.ownsRow base 9 1 (.slice (some ⟨g, 0, none⟩) n cap) n (S.map Value.string)) : S.length = n ∧ TS w (some ⟨g, 0, none⟩) S := by
  have hn : S.length = n := by have := h.1; simpa using this
  refine ⟨hn, g, 0, fun _ => rfl, fun k hk => ?_⟩
  rw [Nat.zero_add, h.cellAt k (by omega), List.getElem?_map, List.getElem?_eq_getElem hk]; simp [sAt, hk]

theorem own_lt {w : World} {base g n cap : Nat} {xs : List Value} (h : w.ownsRow base 9 1 (.slice (some ⟨g, 0, none⟩) n cap) n xs) : g < w.heap.size := by
  rcases h.2 with ⟨h', _⟩ | ⟨g', cap', cur, h', _, hg, _⟩
  · simp at h'
  · simp only [Value.slice.injEq, Option.some.injEq, Addr.mk.injEq, and_true, true_and] at h'
    obtain ⟨rfl, rfl⟩ := h'
    exact (Array.getElem?_eq_some_iff.1 hg).1

theorem own_kept {w w' : World} {o : Obj} {base g g' n cap : Nat} {xs : List Value} (h : w.ownsRow base 9 1 (.slice (some ⟨g, 0, none⟩) n cap) n xs) (hg : (w.alloc o).grownBy w' (some g')) (hne : g ≠ g') : w'.ownsRow base 9 1 (.slice (some ⟨g, 0, none⟩) n cap) n xs :=
  (h.alloc o).kept hg (.inr (by simpa [Value.ownBlock] using hne))

theorem one_str (s : ByteArray) : ∀ u ∈ [Value.string s], u.oneCell' = true := by
  intro u hu; simp at hu; subst hu; rfl

theorem below_app {B : Nat} {a w w' : World} {o : Obj} {g : Nat} (h : Below B a w) (hB : B ≤ w.heap.size) (hg : (w.alloc o).grownBy w' (some g)) (hr : B ≤ g) : Below B a w' :=
  (h.alloc hB _).grown hg (by simp; omega) (fun k e => by cases e; exact hr)

theorem take_snoc (S : List ByteArray) (k : Nat) (h : k < S.length) : S.take (k + 1) = S.take k ++ [sAt S k] := by
  rw [List.take_succ_eq_append_getElem h]; simp [sAt, h]

namespace fnHoldsOverConcatenation
set_option maxHeartbeats 4000000 in
theorem walk_in (lA cA : Nat) (aA : Option Addr) (A : List ByteArray) (lB cB : Nat) (aB : Option Addr) (B : List ByteArray) (x : ByteArray) (w : World) (nA : aA = none → lA = 0 ∧ cA = 0) (nB : aB = none → lB = 0 ∧ cB = 0) (hA : A.length = lA) (hB : B.length = lB) (TA : TS w aA A) (TB : TS w aB B)
    (mA : lA ≤ 65536) (mB : lB ≤ 65536) (mx : x.size ≤ 1048576) :
    Calls Try.prog 4 #[.slice aA lA cA, .slice aB lB cB, .string x] w fun e w' => e = .returned (.bool true) ∧ Below w.heap.size w w' := by
  have TA' : Aside (TS w aA A) := TA
  have TB' : Aside (TS w aB B) := TB
  have NA : Aside (aA = none → lA = 0 ∧ cA = 0) := nA
  have NB : Aside (aB = none → lB = 0 ∧ cB = 0) := nB
  clear TA TB nA nB
  obtain ⟨i9, hi, hz0, hz1, hz2⟩ := info_parts Try.info9
  go_enter Try.func4, Try.ntmps4
  go_wp2_with fail
  refine (zzb_oc lA cA aA A lB cB aB B x _ hA (by omega) TA'.out hB (by omega) TB'.out).mono ?_
  rintro e w' ⟨⟨b, rfl⟩, rfl⟩
  cases b with
  | false =>
    go_wp2
    go_ret
    exact ⟨rfl, Below.refl _ _⟩
  | true =>
    go_wp2_with fail
    refine (sb_any lA cA aA A _ hA (by omega) TA'.out).mono ?_
    rintro e w' ⟨⟨n1, rfl⟩, rfl⟩
    go_wp2_with fail
    refine (sb_any lB cB aB B _ hB (by omega) TB'.out).mono ?_
    rintro e w' ⟨⟨n2, rfl⟩, rfl⟩
    go_wp2_with fail
    · go_wp2
      go_ret
      exact ⟨rfl, Below.refl _ _⟩
    refine (clone_any aA lA cA A _ NA.out hA (by omega) TA'.out).mono ?_
    rintro e w1 ⟨tA, rfl, hb1, X1⟩
    go_wp2_with fail
    refine (clone_any aB lB cB B _ NB.out hB (by omega) (TB'.out.below hb1)).mono ?_
    rintro e w2 ⟨tB, rfl, hb2, X2⟩
    have XA : Aside (TS w2 tA A) := X1.below hb2
    have XB : Aside (TS w2 tB B) := X2
    have hB2 := hb1.trans (hb2.mono hb1.size)
    clear X1 X2 hb1 hb2 TA' TB' NA NB
    go_wp2_with (at_make; refine wpList_make_own _ rfl _ _ 22 rfl w2.heap.size 9 i9 (.string ByteArray.empty) 1 Try.underlying22 hi hz0 hz1 _ _ _ (lA + lB) rfl rfl (by omega) (by rw [hz2]; omega) (by unfold maxLen; omega) (Nat.le_refl _) ?_)
    intro w3 o1 g1
    have b3 : Below w2.heap.size w2 w3 := (Below.refl _ _).grown g1 (Nat.le_refl _) (fun k h => by cases h)
    have l1 := own_lt o1
    clear g1
    go_wp2_with (at_make; refine wpList_make_own _ rfl _ _ 22 rfl w2.heap.size 9 i9 (.string ByteArray.empty) 1 Try.underlying22 hi hz0 hz1 _ _ _ (lA + lB) rfl rfl (by omega) (by rw [hz2]; omega) (by unfold maxLen; omega) b3.size ?_)
    intro w4 o2 g2
    have b4 : Below w2.heap.size w2 w4 := b3.grown g2 b3.size (fun k h => by cases h)
    have o1' := o1.kept g2 (.inr (by simp [Value.ownBlock]))
    have l2 := own_lt o2
    clear g2 b3 o1
    go_wp2_with (at_make; refine wpList_make_own _ rfl _ _ 22 rfl w2.heap.size 9 i9 (.string ByteArray.empty) 1 Try.underlying22 hi hz0 hz1 _ _ _ (lA + 1) rfl rfl (by omega) (by rw [hz2]; omega) (by unfold maxLen; omega) b4.size ?_)
    intro w5 o3 g3
    have b5 : Below w2.heap.size w2 w5 := b4.grown g3 b4.size (fun k h => by cases h)
    have o1'' := o1'.kept g3 (.inr (by simp [Value.ownBlock]))
    have o2' := o2.kept g3 (.inr (by simp [Value.ownBlock]))
    have l3 := own_lt o3
    clear g3 b4 o1' o2
    have s5 := b5.size
    go_wp2_with (at_builtin; refine wpList_append_fits _ rfl (.tmp 62) (.tmp 64) 22 rfl w2.heap.size 9 i9 1 Try.underlying22 hi hz1 w4.heap.size 0 _ _ rfl (o3.alloc _) ⟨w5.heap.size, 0, none⟩ 1 1 [.string x] rfl rfl (cell_one_new _ _ _) (one_str x) (by omega) ?_)
    intro w6 q3 g6
    have b6 : Below w2.heap.size w2 w6 := below_app b5 b5.size g6 (by omega)
    have q1 : w6.ownsRow w2.heap.size 9 1 (.slice (some ⟨w2.heap.size, 0, none⟩) 0 (lA + lB)) 0 ((A.take 0).map Value.string) := own_kept o1'' g6 (by omega)
    have q2 : w6.ownsRow w2.heap.size 9 1 (.slice (some ⟨w3.heap.size, 0, none⟩) 0 (lA + lB)) 0 ((B.take 0 ++ A.take 0).map Value.string) := own_kept o2' g6 (by omega)
    have q3' : w6.ownsRow w2.heap.size 9 1 (.slice (some ⟨w4.heap.size, 0, none⟩) (0 + 1) (lA + 1)) (0 + 1) (([x] ++ A.take 0).map Value.string) := q3
    clear g6 o1'' o2' o3 b5 s5 q3 l3
    go_wp2_with fail
    go_loopw [7, 9, 10] (fun ab wx is wr => ∃ k : Nat, k ≤ lA ∧ is = .int .i64 (k : Int) ∧ ab = .slice (some ⟨w2.heap.size, 0, none⟩) k (lA + lB) ∧ wx = .slice (some ⟨w4.heap.size, 0, none⟩) (k + 1) (lA + 1) ∧ Below w2.heap.size w2 wr ∧
        wr.ownsRow w2.heap.size 9 1 (.slice (some ⟨w2.heap.size, 0, none⟩) k (lA + lB)) k ((A.take k).map Value.string) ∧ wr.ownsRow w2.heap.size 9 1 (.slice (some ⟨w3.heap.size, 0, none⟩) 0 (lA + lB)) 0 ((B.take 0 ++ A.take 0).map Value.string) ∧ wr.ownsRow w2.heap.size 9 1 (.slice (some ⟨w4.heap.size, 0, none⟩) (k + 1) (lA + 1)) (k + 1) (([x] ++ A.take k).map Value.string)) (fun _ _ is _ => lA - (intOf is).toNat)
    case atStart => exact ⟨0, Nat.zero_le _, rfl, rfl, rfl, b6, q1, q2, q3'⟩
    case round =>
      obtain ⟨k, hk, rfl, rfl, rfl, br, p1, p2, p3⟩ := hrel
      clear q1 q2 q3' b6
      have sr := br.size
      by_cases hlt : k < lA
      · obtain ⟨tb, off, ht1, ht2⟩ := XA.out.below br
        obtain rfl := ht1 (by omega)
        obtain ⟨s, hs⟩ : ∃ s, s = sAt A k := ⟨_, rfl⟩
        have hcx : wr.cell? ⟨tb, off + k, none⟩ = some (.string s) := by rw [hs]; exact ht2 k (by omega)
        have HS : Aside (s = sAt A k) := hs
        clear ht2 hs
        go_wp2_with (at_builtin; refine wpList_append_fits _ rfl (.tmp 72) (.tmp 77) 22 rfl w2.heap.size 9 i9 1 Try.underlying22 hi hz1 w2.heap.size k _ _ rfl (p1.alloc _) ⟨wr.heap.size, 0, none⟩ 1 1 [.string s] rfl rfl (cell_one_new _ _ _) (one_str s) (by omega) ?_)
        intro v1 r1 g7
        have b7 : Below w2.heap.size w2 v1 := below_app br br.size g7 (Nat.le_refl _)
        have r2 := own_kept p2 g7 (by omega)
        have r3 := own_kept p3 g7 (by omega)
        obtain ⟨tb', off', ht1', ht2'⟩ := XA.out.below b7
        obtain ⟨rfl, rfl⟩ : tb = tb' ∧ off = off' := by have := ht1' (by omega); simpa using this
        have hcy : v1.cell? ⟨tb, off + k, none⟩ = some (.string s) := by rw [HS.out]; exact ht2' k (by omega)
        clear ht1' ht2' g7 p1 p2 p3 hcx
        go_wp2_with (at_builtin; refine wpList_append_fits _ rfl (.tmp 79) (.tmp 84) 22 rfl w2.heap.size 9 i9 1 Try.underlying22 hi hz1 w4.heap.size (k + 1) _ _ rfl (r3.alloc _) ⟨v1.heap.size, 0, none⟩ 1 1 [.string s] rfl rfl (cell_one_new _ _ _) (one_str s) (by omega) ?_)
        intro v2 t3 g8
        have b8 : Below w2.heap.size w2 v2 := below_app b7 b7.size g8 (by omega)
        have t1 := own_kept r1 g8 (by omega)
        have t2 := own_kept r2 g8 (by omega)
        clear g8 r1 r2 r3 hcy
        go_wp2
        go_roundw
        case rel =>
          refine ⟨k + 1, by omega, by go_num, rfl, rfl, b8, ?_, t2, ?_⟩
          · rw [take_snoc A k (by omega), ← HS.out]; simpa using t1
          · rw [take_snoc A k (by omega), ← HS.out]; simpa using t3
        case measure => simp [intOf]; omega
      · obtain rfl : lA = k := by omega
        have eA : A.take lA = A := List.take_of_length_le (by omega)
        have z1 : wr.ownsRow w2.heap.size 9 1 (.slice (some ⟨w2.heap.size, 0, none⟩) (lA + 0) (lA + lB)) (lA + 0) ((A ++ B.take 0).map Value.string) := by simpa [eA] using p1
        have z3 : wr.ownsRow w2.heap.size 9 1 (.slice (some ⟨w4.heap.size, 0, none⟩) (lA + 1) (lA + 1)) (lA + 1) (([x] ++ A).map Value.string) := by rw [eA] at p3; exact p3
        clear p1 p3 eA
        go_wp2_with fail
        go_loopw [7, 8, 11] (fun ab ba is wq => ∃ j : Nat, j ≤ lB ∧ is = .int .i64 (j : Int) ∧ ab = .slice (some ⟨w2.heap.size, 0, none⟩) (lA + j) (lA + lB) ∧ ba = .slice (some ⟨w3.heap.size, 0, none⟩) j (lA + lB) ∧ Below w2.heap.size w2 wq ∧
            wq.ownsRow w2.heap.size 9 1 (.slice (some ⟨w2.heap.size, 0, none⟩) (lA + j) (lA + lB)) (lA + j) ((A ++ B.take j).map Value.string) ∧ wq.ownsRow w2.heap.size 9 1 (.slice (some ⟨w3.heap.size, 0, none⟩) j (lA + lB)) j ((B.take j ++ A.take 0).map Value.string) ∧ wq.ownsRow w2.heap.size 9 1 (.slice (some ⟨w4.heap.size, 0, none⟩) (lA + 1) (lA + 1)) (lA + 1) (([x] ++ A).map Value.string)) (fun _ _ is _ => lB - (intOf is).toNat)
        case atStart => exact ⟨0, Nat.zero_le _, rfl, rfl, rfl, br, z1, p2, z3⟩
        case round =>
          obtain ⟨j, hj, rfl, rfl, rfl, bq, p1, p2', p3⟩ := hrel
          clear z1 p2 z3 br
          have sq := bq.size
          by_cases hlt2 : j < lB
          · obtain ⟨tb, off, ht1, ht2⟩ := XB.out.below bq
            obtain rfl := ht1 (by omega)
            obtain ⟨s, hs⟩ : ∃ s, s = sAt B j := ⟨_, rfl⟩
            have hcx : wr.cell? ⟨tb, off + j, none⟩ = some (.string s) := by rw [hs]; exact ht2 j (by omega)
            have HS : Aside (s = sAt B j) := hs
            clear ht2 hs
            go_wp2_with (at_builtin; refine wpList_append_fits _ rfl (.tmp 92) (.tmp 97) 22 rfl w2.heap.size 9 i9 1 Try.underlying22 hi hz1 w2.heap.size (lA + j) _ _ rfl (p1.alloc _) ⟨wr.heap.size, 0, none⟩ 1 1 [.string s] rfl rfl (cell_one_new _ _ _) (one_str s) (by omega) ?_)
            intro v1 r1 g7
            have b7 : Below w2.heap.size w2 v1 := below_app bq bq.size g7 (Nat.le_refl _)
            have r2 := own_kept p2' g7 (by omega)
            have r3 := own_kept p3 g7 (by omega)
            obtain ⟨tb', off', ht1', ht2'⟩ := XB.out.below b7
            obtain ⟨rfl, rfl⟩ : tb = tb' ∧ off = off' := by have := ht1' (by omega); simpa using this
            have hcy : v1.cell? ⟨tb, off + j, none⟩ = some (.string s) := by rw [HS.out]; exact ht2' j (by omega)
            clear ht1' ht2' g7 p1 p2' p3 hcx
            go_wp2_with (at_builtin; refine wpList_append_fits _ rfl (.tmp 99) (.tmp 104) 22 rfl w2.heap.size 9 i9 1 Try.underlying22 hi hz1 w3.heap.size j _ _ rfl (r2.alloc _) ⟨v1.heap.size, 0, none⟩ 1 1 [.string s] rfl rfl (cell_one_new _ _ _) (one_str s) (by omega) ?_)
            intro v2 t2 g8
            have b8 : Below w2.heap.size w2 v2 := below_app b7 b7.size g8 (by omega)
            have t1 := own_kept r1 g8 (by omega)
            have t3 := own_kept r3 g8 (by omega)
            clear g8 r1 r2 r3 hcy
            go_wp2
            go_roundw
            case rel =>
              refine ⟨j + 1, by omega, by go_num, rfl, rfl, b8, ?_, ?_, t3⟩
              · rw [take_snoc B j (by omega), ← HS.out]; simpa [Nat.add_assoc] using t1
              · rw [take_snoc B j (by omega), ← HS.out]; simpa using t2
            case measure => simp [intOf]; omega
          · obtain rfl : lB = j := by omega
            have eB : B.take lB = B := List.take_of_length_le (by omega)
            have z1 : wr.ownsRow w2.heap.size 9 1 (.slice (some ⟨w2.heap.size, 0, none⟩) (lA + lB) (lA + lB)) (lA + lB) ((A ++ B).map Value.string) := by rw [eB] at p1; exact p1
            have z2 : wr.ownsRow w2.heap.size 9 1 (.slice (some ⟨w3.heap.size, 0, none⟩) (lB + 0) (lA + lB)) (lB + 0) ((B ++ A.take 0).map Value.string) := by rw [eB] at p2'; exact p2'
            clear p1 p2' eB
            go_wp2_with fail
            go_loopw [8, 12] (fun ba is wq => ∃ j : Nat, j ≤ lA ∧ is = .int .i64 (j : Int) ∧ ba = .slice (some ⟨w3.heap.size, 0, none⟩) (lB + j) (lA + lB) ∧ Below w2.heap.size w2 wq ∧
                wq.ownsRow w2.heap.size 9 1 (.slice (some ⟨w2.heap.size, 0, none⟩) (lA + lB) (lA + lB)) (lA + lB) ((A ++ B).map Value.string) ∧ wq.ownsRow w2.heap.size 9 1 (.slice (some ⟨w3.heap.size, 0, none⟩) (lB + j) (lA + lB)) (lB + j) ((B ++ A.take j).map Value.string) ∧ wq.ownsRow w2.heap.size 9 1 (.slice (some ⟨w4.heap.size, 0, none⟩) (lA + 1) (lA + 1)) (lA + 1) (([x] ++ A).map Value.string)) (fun _ is _ => lA - (intOf is).toNat)
            case atStart => exact ⟨0, Nat.zero_le _, rfl, rfl, bq, z1, z2, p3⟩
            case round =>
              obtain ⟨j, hj3, rfl, rfl, bv, u1, u2, u3⟩ := hrel
              clear z1 z2 p3 bq
              have sv := bv.size
              by_cases hlt3 : j < lA
              · obtain ⟨tb, off, ht1, ht2⟩ := XA.out.below bv
                obtain rfl := ht1 (by omega)
                obtain ⟨s, hs⟩ : ∃ s, s = sAt A j := ⟨_, rfl⟩
                have hcx : wr.cell? ⟨tb, off + j, none⟩ = some (.string s) := by rw [hs]; exact ht2 j (by omega)
                have HS : Aside (s = sAt A j) := hs
                clear ht2 hs
                go_wp2_with (at_builtin; refine wpList_append_fits _ rfl (.tmp 112) (.tmp 117) 22 rfl w2.heap.size 9 i9 1 Try.underlying22 hi hz1 w3.heap.size (lB + j) _ _ rfl (u2.alloc _) ⟨wr.heap.size, 0, none⟩ 1 1 [.string s] rfl rfl (cell_one_new _ _ _) (one_str s) (by omega) ?_)
                intro v1 r2 g7
                have b7 : Below w2.heap.size w2 v1 := below_app bv bv.size g7 (by omega)
                have r1 := own_kept u1 g7 (by omega)
                have r3 := own_kept u3 g7 (by omega)
                clear g7 u1 u2 u3 hcx
                go_wp2
                go_roundw
                case rel =>
                  refine ⟨j + 1, by omega, by go_num, rfl, b7, r1, ?_, r3⟩
                  rw [take_snoc A j (by omega), ← HS.out]; simpa [Nat.add_assoc] using r2
                case measure => simp [intOf]; omega
              · obtain rfl : lA = j := by omega
                have eA : A.take lA = A := List.take_of_length_le (by omega)
                have u2' : wr.ownsRow w2.heap.size 9 1 (.slice (some ⟨w3.heap.size, 0, none⟩) (lB + lA) (lA + lB)) (lB + lA) ((B ++ A).map Value.string) := by rw [eA] at u2; exact u2
                clear u2 eA
                go_wp2_with (at_make; refine wpList_make_own _ rfl _ _ 22 rfl w2.heap.size 9 i9 (.string ByteArray.empty) 1 Try.underlying22 hi hz0 hz1 _ _ _ 0 rfl rfl rfl (by rw [hz2]; omega) (by unfold maxLen; omega) bv.size ?_)
                intro v5 o5 g5
                have b9 : Below w2.heap.size w2 v5 := bv.grown g5 bv.size (fun k h => by cases h)
                obtain ⟨_, Y1⟩ := TS.of_own (u1.kept g5 (.inr (by simp [Value.ownBlock])))
                obtain ⟨_, Y2⟩ := TS.of_own (u2'.kept g5 (.inr (by simp [Value.ownBlock])))
                obtain ⟨_, Y3⟩ := TS.of_own (u3.kept g5 (.inr (by simp [Value.ownBlock])))
                have YA : Aside (TS v5 tA A) := XA.out.below b9
                have YB : Aside (TS v5 tB B) := XB.out.below b9
                have Y1 : Aside (TS v5 (some ⟨w2.heap.size, 0, none⟩) (A ++ B)) := Y1
                have Y2 : Aside (TS v5 (some ⟨w3.heap.size, 0, none⟩) (B ++ A)) := Y2
                have Y3 : Aside (TS v5 (some ⟨w4.heap.size, 0, none⟩) ([x] ++ A)) := Y3
                have hBf : Below w.heap.size w v5 := hB2.trans (b9.mono hB2.size)
                clear g5 u1 u2' u3 bv o5 XA XB
                obtain ⟨p, hp⟩ : ∃ p, hol A x = p := ⟨_, rfl⟩
                obtain ⟨q, hq⟩ : ∃ q, hol B x = q := ⟨_, rfl⟩
                have HP : Aside (hol A x = p) := hp
                have HQ : Aside (hol B x = q) := hq
                have E1 : Aside (hol (A ++ B) x = (p || q)) := by show _ = _; rw [hol_app, hp, hq]
                have E2 : Aside (hol (B ++ A) x = (p || q)) := by show _ = _; rw [hol_app, hp, hq, Bool.or_comm]
                have E3 : Aside (hol ([x] ++ A) x = true) := by show _ = _; rw [hol_app]; simp [hol]
                clear hp hq
                go_wp2_with fail
                refine (zz_holds 0 0 _ [] x _ false rfl (by omega) ⟨0, 0, fun h => by simp at h, fun k h => by simp at h⟩ rfl).mono ?_
                rintro e w' ⟨rfl, rfl⟩
                go_wp2_with fail
                refine (zz_holds 0 0 _ [] x _ false rfl (by omega) ⟨0, 0, fun h => by simp at h, fun k h => by simp at h⟩ rfl).mono ?_
                rintro e w' ⟨rfl, rfl⟩
                go_wp2_with fail
                refine (zz_holds (lA + 1) (lA + 1) _ ([x] ++ A) x _ true (by simp [hA]) (by omega) Y3.out E3).mono ?_
                rintro e w' ⟨rfl, rfl⟩
                cases p with
                | true =>
                  go_wp2_with fail
                  refine (zz_holds lA lA _ A x _ true hA (by omega) YA.out HP).mono ?_
                  rintro e w' ⟨rfl, rfl⟩
                  go_wp2_with fail
                  refine (zz_holds (lA + lB) (lA + lB) _ (A ++ B) x _ true (by simp [hA, hB]) (by omega) Y1.out (by simpa using E1)).mono ?_
                  rintro e w' ⟨rfl, rfl⟩
                  go_wp2_with fail
                  refine (zz_holds (lB + lA) (lA + lB) _ (B ++ A) x _ true (by simp [hA, hB]) (by omega) Y2.out (by simpa using E2)).mono ?_
                  rintro e w' ⟨rfl, rfl⟩
                  go_wp2
                  go_ret
                  exact ⟨rfl, hBf⟩
                | false =>
                  go_wp2_with fail
                  refine (zz_holds lA lA _ A x _ false hA (by omega) YA.out HP).mono ?_
                  rintro e w' ⟨rfl, rfl⟩
                  go_wp2_with fail
                  refine (zz_holds lB lB _ B x _ q hB (by omega) YB.out HQ).mono ?_
                  rintro e w' ⟨rfl, rfl⟩
                  go_wp2_with fail
                  refine (zz_holds (lA + lB) (lA + lB) _ (A ++ B) x _ q (by simp [hA, hB]) (by omega) Y1.out (by simpa using E1)).mono ?_
                  rintro e w' ⟨rfl, rfl⟩
                  go_wp2_with fail
                  refine (zz_holds (lB + lA) (lA + lB) _ (B ++ A) x _ q (by simp [hA, hB]) (by omega) Y2.out (by simpa using E2)).mono ?_
                  rintro e w' ⟨rfl, rfl⟩
                  go_wp2
                  go_ret
                  exact ⟨rfl, hBf⟩

set_option maxHeartbeats 1000000 in
theorem walk (aA : Option Addr) (lA cA : Nat) (sA : List ByteArray) (aB : Option Addr) (lB cB : Nat) (sB : List ByteArray) (x : ByteArray) (w : World) (w0 : IsStrs w aA lA cA sA) (w1 : IsStrs w aB lB cB sB) (mx : x.size ≤ 9223372036854775807) :
    Calls Try.prog 4 #[.slice aA lA cA, .slice aB lB cB, .string x] w fun e w' => e = .returned (.bool true) ∧ Below w.heap.size w w' := by
  have mA := w0.max
  have mB := w1.max
  have hA := w0.len
  have hB := w1.len
  have T0 : Aside (TS w aA (sA.take lA)) := w0.ts
  have T1 : Aside (TS w aB (sB.take lB)) := w1.ts
  generalize sA.take lA = A at hA T0
  generalize sB.take lB = B at hB T1
  by_cases h0 : lA ≤ 65536
  · by_cases h1 : lB ≤ 65536
    · by_cases h2 : x.size ≤ 1048576
      · exact walk_in lA cA aA _ lB cB aB _ x w w0.nil0 w1.nil0 hA hB T0.out T1.out h0 h1 h2
      · have h2' : (1048576 : Int) < (x.size : Int) := by omega
        have d0 : decide ((65536 : Int) < (lA : Int)) = false := decide_eq_false (by omega)
        have d1 : decide ((65536 : Int) < (lB : Int)) = false := decide_eq_false (by omega)
        clear h2
        clear w0 w1
        go_enter Try.func4, Try.ntmps4
        go_wp2_with fail
        refine (zzb_oc lA cA aA _ lB cB aB _ x _ hA mA T0.out hB mB T1.out).mono ?_
        rintro e w' ⟨⟨b, rfl⟩, rfl⟩
        cases b with
        | false =>
          go_wp2
          go_ret
          exact ⟨rfl, Below.refl _ _⟩
        | true =>
          go_wp2_with fail
          go_ret
          exact ⟨rfl, Below.refl _ _⟩
    · have h1' : (65536 : Int) < (lB : Int) := by omega
      clear h1
      have d0 : decide ((65536 : Int) < (lA : Int)) = false := decide_eq_false (by omega)
      clear w0 w1
      go_enter Try.func4, Try.ntmps4
      go_wp2_with fail
      refine (zzb_oc lA cA aA _ lB cB aB _ x _ hA mA T0.out hB mB T1.out).mono ?_
      rintro e w' ⟨⟨b, rfl⟩, rfl⟩
      cases b with
      | false =>
        go_wp2
        go_ret
        exact ⟨rfl, Below.refl _ _⟩
      | true =>
        go_wp2_with fail
        go_ret
        exact ⟨rfl, Below.refl _ _⟩
  · have h0' : (65536 : Int) < (lA : Int) := by omega
    clear h0
    clear w0 w1
    go_enter Try.func4, Try.ntmps4
    go_wp2_with fail
    refine (zzb_oc lA cA aA _ lB cB aB _ x _ hA mA T0.out hB mB T1.out).mono ?_
    rintro e w' ⟨⟨b, rfl⟩, rfl⟩
    cases b with
    | false =>
      go_wp2
      go_ret
      exact ⟨rfl, Below.refl _ _⟩
    | true =>
      go_wp2_with fail
      go_ret
      exact ⟨rfl, Below.refl _ _⟩
end fnHoldsOverConcatenation
end Go.Proofs.Qxb6602904a
