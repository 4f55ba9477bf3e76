/-
  SEAT b6602904a: the contracts of sortedHasCgB1 and mergeSortCgB1.
-/
import Derived.Test.Qxb6602904aOrder
import Derived.Test.Qxb6602904aConcat
namespace Go.Proofs.Qxb6602904a
open Go.RowKit

set_option maxHeartbeats 1000000 in
theorem has_any (len cap : Nat) (a : Option Addr) (S : List ByteArray) (x : ByteArray) (w : World) (v : Bool) (hS : S.length = len) (hl : len ≤ 1048576) (hT : TS w a S) (hO : Srt S) (hv : Aside (hol S x = v)) :
    Calls Try.prog 10 #[.slice a len cap, .string x] w fun e w' => e = .returned (.bool v) ∧ w = w' := by
  have hT' : Aside (TS w a S) := hT
  have hO' : Aside (Srt S) := hO
  clear hT hO
  go_enter Try.func10, Try.ntmps10
  go_wp2
  go_loop [5, 6] (fun ls hs => ∃ lo hi : Nat, lo ≤ hi ∧ hi ≤ len ∧ ls = .int .i64 (lo : Int) ∧ hs = .int .i64 (hi : Int) ∧ Aside (Half S x lo hi)) (fun ls hs => (intOf hs - intOf ls).toNat)
  case atStart => exact ⟨0, len, Nat.zero_le _, Nat.le_refl _, rfl, rfl, fun k h => by omega, fun k h1 h2 => by omega⟩
  case round =>
    obtain ⟨lo, hi, h1, h2, rfl, rfl, hH⟩ := hrel
    by_cases hlt : lo < hi
    · obtain ⟨m, hm⟩ : ∃ m, m = lo + (hi - lo) / 2 := ⟨_, rfl⟩
      have em : (lo : Int) + ((hi : Int) - (lo : Int)) / 2 = (m : Int) := by omega
      have m1 : lo ≤ m := by omega
      have m2 : m < hi := by omega
      clear hm
      obtain ⟨tb, off, ht1, ht2⟩ := hT'.out
      obtain rfl := ht1 (by omega)
      obtain ⟨s, hs⟩ : ∃ s, s = sAt S m := ⟨_, rfl⟩
      have hcx : w.cell? ⟨tb, off + m, none⟩ = some (.string s) := by rw [hs]; exact ht2 m (by omega)
      have HS : Aside (s = sAt S m) := hs
      clear hs ht2
      cases hq : Op.bytesLess s.toList x.toList with
      | true =>
        have HQ : Aside (bl (sAt S m) x = true) := by show bl (sAt S m) x = true; rw [← HS.out]; exact hq
        go_wp2
        go_round
        case rel => exact ⟨m + 1, hi, by omega, by omega, by go_num, rfl, half_up hO'.out hH.out (by omega) HQ.out⟩
        case measure => simp [intOf]; omega
      | false =>
        have HQ : Aside (bl (sAt S m) x = false) := by show bl (sAt S m) x = false; rw [← HS.out]; exact hq
        go_wp2
        go_round
        case rel => exact ⟨lo, m, by omega, by omega, rfl, rfl, half_down hO'.out hH.out HQ.out⟩
        case measure => simp [intOf]; omega
    · obtain rfl : lo = hi := by omega
      by_cases hl2 : lo < len
      · obtain ⟨tb, off, ht1, ht2⟩ := hT'.out
        obtain rfl := ht1 (by omega)
        obtain ⟨s, hs⟩ : ∃ s, s = sAt S lo := ⟨_, rfl⟩
        have hcx : w.cell? ⟨tb, off + lo, none⟩ = some (.string s) := by rw [hs]; exact ht2 lo (by omega)
        have HV : Aside ((s.toList == x.toList) = v) := by show (s.toList == x.toList) = v; rw [← hv.out, hs]; exact (half_at hO'.out hH.out (by omega)).symm
        clear hs ht2
        cases hq : (s.toList == x.toList) with
        | true =>
          obtain rfl : true = v := by rw [← HV.out]; exact hq.symm
          go_wp2
          go_ret
          exact ⟨rfl, rfl⟩
        | false =>
          obtain rfl : false = v := by rw [← HV.out]; exact hq.symm
          go_wp2
          go_ret
          exact ⟨rfl, rfl⟩
      · obtain rfl : v = false := by rw [← hv.out]; exact half_none hH.out (by omega)
        go_wp2
        go_ret
        exact ⟨rfl, rfl⟩

set_option maxHeartbeats 1000000 in
theorem sort_small (len cap : Nat) (a : Option Addr) (S : List ByteArray) (w : World) (hS : S.length = len) (hl : len ≤ 1) (hT : TS w a S) :
    Calls Try.prog 8 #[.slice a len cap] w fun e w' => e = .returned (.slice (some ⟨w.heap.size, 0, none⟩) len len) ∧ Below w.heap.size w w' ∧ TS w' (some ⟨w.heap.size, 0, none⟩) S := by
  have hT' : Aside (TS w a S) := hT
  clear hT
  have hl' : (len : Int) ≤ 1 := by omega
  obtain ⟨i0, hi, hz0, hz1, hz2⟩ := info_parts Try.info9
  go_enter Try.func8, Try.ntmps8
  go_wp2_with (at_make; refine wpList_make_full _ rfl _ _ 22 rfl w.heap.size 9 i0 (.string ByteArray.empty) 1 Try.underlying22 hi hz0 hz1 _ _ _ _ len rfl rfl rfl rfl (by rw [hz2]; omega) (by unfold maxLen; omega) (Nat.le_refl _) ?_)
  intro w1 hown hgrow
  have hb1 : Below w.heap.size w w1 := (Below.refl _ _).grown hgrow (Nat.le_refl _) (fun k h => by cases h)
  clear hgrow hi hz0 hz1 hz2
  go_wp2_with fail
  go_loopw [4] (fun i wr => ∃ k : Nat, k ≤ len ∧ i = .int .i64 k ∧ Below w.heap.size w wr ∧ ∃ xs : List Value, wr.ownsRow w.heap.size 9 1 (.slice (some ⟨w.heap.size, 0, none⟩) len len) len xs ∧ ∀ j, j < k → xs[j]? = some (.string (sAt S j)))
    (fun i _ => len - (intOf i).toNat)
  case atStart => exact ⟨0, Nat.zero_le _, rfl, hb1, _, hown, fun j h => by omega⟩
  case round =>
    obtain ⟨k, hk, rfl, hbel, xs, hox, hxs'⟩ := hrel
    have hxs : Aside (∀ j, j < k → xs[j]? = some (.string (sAt S j))) := hxs'
    clear hown hb1 hxs'
    have hxl : xs.length = len := by have := hox.1; omega
    by_cases hlt : k < len
    · obtain ⟨tb, off, ht1, ht2⟩ := hT'.out.below hbel
      obtain rfl := ht1 (by omega)
      obtain ⟨s, hs⟩ : ∃ s, s = sAt S k := ⟨_, rfl⟩
      have hsrc : wr.cell? ⟨tb, off + k, none⟩ = some (.string s) := by rw [hs]; exact ht2 k (by omega)
      have HS : Aside (s = sAt S k) := hs
      clear hs ht2
      obtain ⟨u, hu⟩ : ∃ u, xs[k]? = some u := ⟨xs[k], by simp [hxl, hlt]⟩
      have hdst : wr.cell? ⟨w.heap.size, k, none⟩ = some u := by rw [hox.cellAt k (by omega)]; exact hu
      have hfr : wr.frozen? ⟨w.heap.size, k, none⟩ = false := hox.frozenAt k
      clear hu
      go_wp2_with fail
      go_roundw
      case rel =>
        refine ⟨k + 1, by omega, by go_num, hbel.setCell (Nat.le_refl _) _, _, (hox.stored k _).1, fun j hj => ?_⟩
        rw [List.getElem?_set]
        by_cases e : k = j
        · subst e; rw [if_pos rfl, if_pos (by omega), HS.out]
        · rw [if_neg e]; exact hxs.out j (by omega)
      case measure => simp [intOf]; omega
    · go_wp2_with fail
      go_ret
      exact ⟨rfl, hbel, w.heap.size, 0, fun _ => rfl, fun j hj => by rw [Nat.zero_add, hox.cellAt j (by omega)]; exact hxs.out j (by omega)⟩

theorem TS.take {w : World} {a : Option Addr} {S : List ByteArray} (h : TS w a S) (n : Nat) : TS w a (S.take n) := by
  obtain ⟨tb, off, h1, h2⟩ := h
  refine ⟨tb, off, fun h => h1 (by simp at h; omega), fun k hk => ?_⟩
  simp at hk
  rw [h2 k (by omega)]
  simp [sAt, List.getD_eq_getElem?_getD, show k < n by omega]

theorem TS.drop {w : World} {tb off : Nat} {S : List ByteArray} (h : TS w (some ⟨tb, off, none⟩) S) (n : Nat) : TS w (some ⟨tb, off + n, none⟩) (S.drop n) := by
  obtain ⟨tb', off', h1, h2⟩ := h
  refine ⟨tb, off + n, fun _ => rfl, fun k hk => ?_⟩
  simp at hk
  obtain ⟨rfl, rfl⟩ : tb = tb' ∧ off = off' := by have := h1 (by omega); simpa using this
  rw [Nat.add_assoc, h2 (n + k) (by omega)]
  simp [sAt, List.getD_eq_getElem?_getD]

theorem TS.cell0 {w : World} {g : Nat} {S : List ByteArray} (h : TS w (some ⟨g, 0, none⟩) S) (k : Nat) (hk : k < S.length) : w.cell? ⟨g, k, none⟩ = some (.string (sAt S k)) := by
  obtain ⟨tb', off', h1, h2⟩ := h
  obtain ⟨rfl, rfl⟩ : g = tb' ∧ 0 = off' := by have := h1 (by omega); simpa using this
  have := h2 k hk
  rw [Nat.zero_add] at this; exact this

/-- What mergeSortCgB1 hands back. -/
def SortPost (len : Nat) (S : List ByteArray) (w : World) (e : Ending) (w' : World) : Prop :=
  ∃ (g : Nat) (R : List ByteArray), e = .returned (.slice (some ⟨g, 0, none⟩) len len) ∧ Below w.heap.size w w' ∧ TS w' (some ⟨g, 0, none⟩) R ∧ Sorts S R

set_option maxHeartbeats 4000000 in
theorem sort_step (len cap : Nat) (tb off : Nat) (S : List ByteArray) (w : World) (hS : S.length = len) (hlc : len ≤ cap) (h2 : 2 ≤ len) (hl : len ≤ 65536) (hT : TS w (some ⟨tb, off, none⟩) S)
    (IH : Aside (∀ (l c tb off : Nat) (S : List ByteArray) (w : World), l < len → S.length = l → l ≤ c → TS w (some ⟨tb, off, none⟩) S → Calls Try.prog 8 #[.slice (some ⟨tb, off, none⟩) l c] w (SortPost l S w))) :
    Calls Try.prog 8 #[.slice (some ⟨tb, off, none⟩) len cap] w (SortPost len S w) := by
  have hT' : Aside (TS w (some ⟨tb, off, none⟩) S) := hT
  clear hT
  obtain ⟨mid, hmid⟩ : ∃ m, m = len / 2 := ⟨_, rfl⟩
  have em : (len : Int) / 2 = (mid : Int) := by omega
  have m1 : 1 ≤ mid := by omega
  have m2 : mid < len := by omega
  clear hmid
  obtain ⟨i9, hi, hz0, hz1, hz2⟩ := info_parts Try.info9
  go_enter Try.func8, Try.ntmps8
  have d1 : decide ((len : Int) ≤ 1) = false := decide_eq_false (by omega)
  go_wp2_with fail
  refine (IH.out mid cap tb off (S.take mid) _ m2 (by simp; omega) (by omega) (hT'.out.take mid)).mono ?_
  rintro e w1 ⟨gL, L, rfl, hb1, XL', SL'⟩
  have hX1 : Aside (TS w1 (some ⟨tb, off, none⟩) S) := hT'.out.below hb1
  have hLl : L.length = mid := by rw [SL'.1]; simp; omega
  have XL1 : Aside (TS w1 (some ⟨gL, 0, none⟩) L) := XL'
  have SL : Aside (Sorts (S.take mid) L) := SL'
  clear XL' SL' hT'
  obtain ⟨rl, hrl⟩ : ∃ r, mid + r = len := ⟨len - mid, by omega⟩
  have e2 : len - mid = rl := by omega
  go_wp2_with fail
  refine (IH.out rl (cap - mid) tb (off + mid) (S.drop mid) _ (by omega) (by simp; omega) (by omega) (hX1.out.drop mid)).mono ?_
  rintro e w2 ⟨gR, R, rfl, hb2, XR', SR'⟩
  have hRl : R.length = rl := by rw [SR'.1]; simp; omega
  have XL : Aside (TS w2 (some ⟨gL, 0, none⟩) L) := XL1.out.below hb2
  have XR : Aside (TS w2 (some ⟨gR, 0, none⟩) R) := XR'
  have SR : Aside (Sorts (S.drop mid) R) := SR'
  have hB2 : Below w.heap.size w w2 := hb1.trans (hb2.mono hb1.size)
  clear XR' SR' hX1 XL1 hb1 hb2 IH
  go_wp2_with (at_make; refine wpList_make_own _ rfl _ _ 22 rfl w2.heap.size 9 i9 (.string ByteArray.empty) 1 Try.underlying22 hi hz0 hz1 _ _ _ len rfl rfl rfl (by rw [hz2]; omega) (by unfold maxLen; omega) (Nat.le_refl _) ?_)
  intro w3 o3 g3
  have b3 : Below w2.heap.size w2 w3 := (Below.refl _ _).grown g3 (Nat.le_refl _) (fun k h => by cases h)
  clear g3
  go_upto_block 2 with fail
  go_cut [8, 9, 10] (fun os is js wc => ∃ (i j : Nat) (O : List ByteArray), os = .slice (some ⟨w2.heap.size, 0, none⟩) (i + j) len ∧ is = .int .i64 (i : Int) ∧ js = .int .i64 (j : Int) ∧ i ≤ mid ∧ j ≤ rl ∧ (i = mid ∨ j = rl) ∧ Below w2.heap.size w2 wc ∧ wc.ownsRow w2.heap.size 9 1 (.slice (some ⟨w2.heap.size, 0, none⟩) (i + j) len) (i + j) (O.map Value.string) ∧ Aside (Mrg L R O i j))
  case first =>
    go_wp2_with fail
    go_loopw [8, 9, 10] (fun os is js wr => ∃ (i j : Nat) (O : List ByteArray), os = .slice (some ⟨w2.heap.size, 0, none⟩) (i + j) len ∧ is = .int .i64 (i : Int) ∧ js = .int .i64 (j : Int) ∧ i ≤ mid ∧ j ≤ rl ∧ Below w2.heap.size w2 wr ∧ wr.ownsRow w2.heap.size 9 1 (.slice (some ⟨w2.heap.size, 0, none⟩) (i + j) len) (i + j) (O.map Value.string) ∧ Aside (Mrg L R O i j)) (fun _ is js _ => len - ((intOf is).toNat + (intOf js).toNat))
    case atStart => exact ⟨0, 0, [], rfl, rfl, rfl, by omega, by omega, b3, o3, mrg_start L R⟩
    case round =>
      obtain ⟨i, j, O, rfl, rfl, rfl, hi1, hj1, br, p1, hM⟩ := hrel
      clear o3 b3
      have sr := br.size
      by_cases hii : i < mid
      · by_cases hjj : j < rl
        · obtain ⟨s, hs⟩ : ∃ s, s = sAt R j := ⟨_, rfl⟩
          obtain ⟨t, ht⟩ : ∃ t, t = sAt L i := ⟨_, rfl⟩
          have cR : wr.cell? ⟨gR, j, none⟩ = some (.string s) := by rw [hs]; exact (XR.out.below br).cell0 j (by omega)
          have cL : wr.cell? ⟨gL, i, none⟩ = some (.string t) := by rw [ht]; exact (XL.out.below br).cell0 i (by omega)
          have HS : Aside (s = sAt R j ∧ t = sAt L i) := ⟨hs, ht⟩
          clear hs ht
          have hii' : (i : Int) < (mid : Int) := by omega
          have hjj' : (j : Int) < (rl : Int) := by omega
          cases hq : Op.bytesLess s.toList t.toList with
          | true =>
            have HQ : Aside (bl (sAt R j) (sAt L i) = true) := by show bl (sAt R j) (sAt L i) = true; rw [← HS.out.1, ← HS.out.2]; exact hq
            go_wp2_with fail
            go_quiet (fail)
            have p1' : (wr.drewN nq).ownsRow w2.heap.size 9 1 (.slice (some ⟨w2.heap.size, 0, none⟩) (i + j) len) (i + j) (O.map Value.string) := p1
            have br' : Below w2.heap.size w2 (wr.drewN nq) := below_drewN br nq
            go_wp2_with (at_builtin; refine wpList_append_fits _ rfl (.tmp 64) (.tmp 69) 22 rfl w2.heap.size 9 i9 1 Try.underlying22 hi hz1 w2.heap.size (i + j) _ _ rfl (p1'.alloc _) ⟨wr.heap.size, 0, none⟩ 1 1 [.string s] rfl rfl (cell_one_new _ _ _) (one_str s) (by omega) ?_)
            intro v1 r1 g7
            have b7 : Below w2.heap.size w2 v1 := below_app br' br'.size g7 (Nat.le_refl _)
            clear g7 p1 p1' br'
            go_wp2_with fail
            go_roundw
            case rel =>
              have M := mrg_less SL.out.2.1 SR.out.2.1 hM.out (by omega) HQ.out
              refine ⟨i, (j + 1), _, rfl, rfl, by go_num, by omega, by omega, b7, ?_, M⟩
              rw [← HS.out.1]; simpa [Nat.add_assoc] using r1
            case measure => simp [intOf]; omega
          | false =>
            have HQ : Aside (bl (sAt R j) (sAt L i) = false) := by show bl (sAt R j) (sAt L i) = false; rw [← HS.out.1, ← HS.out.2]; exact hq
            go_wp2_with fail
            go_quiet (fail)
            have p1' : (wr.drewN nq).ownsRow w2.heap.size 9 1 (.slice (some ⟨w2.heap.size, 0, none⟩) (i + j) len) (i + j) (O.map Value.string) := p1
            have br' : Below w2.heap.size w2 (wr.drewN nq) := below_drewN br nq
            go_wp2_with (at_builtin; refine wpList_append_fits _ rfl (.tmp 73) (.tmp 78) 22 rfl w2.heap.size 9 i9 1 Try.underlying22 hi hz1 w2.heap.size (i + j) _ _ rfl (p1'.alloc _) ⟨wr.heap.size, 0, none⟩ 1 1 [.string t] rfl rfl (cell_one_new _ _ _) (one_str t) (by omega) ?_)
            intro v1 r1 g7
            have b7 : Below w2.heap.size w2 v1 := below_app br' br'.size g7 (Nat.le_refl _)
            clear g7 p1 p1' br'
            go_wp2_with fail
            go_roundw
            case rel =>
              have M := mrg_more SL.out.2.1 SR.out.2.1 hM.out (by omega) HQ.out
              refine ⟨i + 1, j, _, by rw [show i + 1 + j = i + j + 1 from by omega], by go_num, rfl, by omega, by omega, b7, ?_, M⟩
              rw [show i + 1 + j = i + j + 1 from by omega, ← HS.out.2]; simpa using r1
            case measure => simp [intOf]; omega
        · obtain rfl : rl = j := by omega
          go_wp2_with fail
          go_meet
          case rel => exact ⟨i, rl, O, rfl, rfl, rfl, by omega, by omega, .inr rfl, br, p1, hM⟩
      · obtain rfl : mid = i := by omega
        go_wp2_with fail
        go_meet
        case rel => exact ⟨mid, j, O, rfl, rfl, rfl, by omega, by omega, .inl rfl, br, p1, hM⟩
  case rest =>
    obtain ⟨i0, j, O0, rfl, rfl, rfl, hi0, hj0, hor, bc, pc, hMc⟩ := hcut
    clear o3 b3
    have HOR : Aside (i0 = mid ∨ j = rl) := hor
    clear hor
    go_wp2_with fail
    go_loopw [8, 9] (fun os is wr => ∃ (i : Nat) (O : List ByteArray), os = .slice (some ⟨w2.heap.size, 0, none⟩) (i + j) len ∧ is = .int .i64 (i : Int) ∧ i0 ≤ i ∧ i ≤ mid ∧ Below w2.heap.size w2 wr ∧ wr.ownsRow w2.heap.size 9 1 (.slice (some ⟨w2.heap.size, 0, none⟩) (i + j) len) (i + j) (O.map Value.string) ∧ Aside (Mrg L R O i j)) (fun _ is _ => mid - (intOf is).toNat)
    case atStart => exact ⟨i0, O0, rfl, rfl, Nat.le_refl _, hi0, bc, pc, hMc⟩
    case round =>
      obtain ⟨i, O, rfl, rfl, hi1, hi2, br, p1, hM⟩ := hrel
      clear bc pc hMc
      have sr := br.size
      by_cases hii : i < mid
      · obtain ⟨t, ht⟩ : ∃ t, t = sAt L i := ⟨_, rfl⟩
        have cL : wr.cell? ⟨gL, i, none⟩ = some (.string t) := by rw [ht]; exact (XL.out.below br).cell0 i (by omega)
        have HS : Aside (t = sAt L i) := ht
        have HJ : Aside (j = R.length) := by have := HOR.out; show j = R.length; omega
        clear ht
        go_wp2_with (at_builtin; refine wpList_append_fits _ rfl (.tmp 86) (.tmp 91) 22 rfl w2.heap.size 9 i9 1 Try.underlying22 hi hz1 w2.heap.size (i + j) _ _ rfl (p1.alloc _) ⟨wr.heap.size, 0, none⟩ 1 1 [.string t] rfl rfl (cell_one_new _ _ _) (one_str t) (by omega) ?_)
        intro v1 r1 g7
        have b7 : Below w2.heap.size w2 v1 := below_app br br.size g7 (Nat.le_refl _)
        clear g7 p1
        go_wp2_with fail
        go_roundw
        case rel =>
          have M := mrg_restL SL.out.2.1 hM.out (by omega) HJ.out
          refine ⟨i + 1, _, by rw [show i + 1 + j = i + j + 1 from by omega], by go_num, by omega, by omega, b7, ?_, M⟩
          rw [show i + 1 + j = i + j + 1 from by omega, ← HS.out]; simpa using r1
        case measure => simp [intOf]; omega
      · obtain rfl : mid = i := by omega
        go_wp2_with fail
        go_loopw [8, 10] (fun os js wr => ∃ (j : Nat) (O : List ByteArray), os = .slice (some ⟨w2.heap.size, 0, none⟩) (mid + j) len ∧ js = .int .i64 (j : Int) ∧ j ≤ rl ∧ Below w2.heap.size w2 wr ∧ wr.ownsRow w2.heap.size 9 1 (.slice (some ⟨w2.heap.size, 0, none⟩) (mid + j) len) (mid + j) (O.map Value.string) ∧ Aside (Mrg L R O mid j)) (fun _ js _ => rl - (intOf js).toNat)
        case atStart => exact ⟨j, O, rfl, rfl, hj0, br, p1, hM⟩
        case round =>
          obtain ⟨j, O, rfl, rfl, hj2, br, p1, hM⟩ := hrel
          have sr := br.size
          by_cases hjj : j < rl
          · obtain ⟨s, hs⟩ : ∃ s, s = sAt R j := ⟨_, rfl⟩
            have cR : wr.cell? ⟨gR, j, none⟩ = some (.string s) := by rw [hs]; exact (XR.out.below br).cell0 j (by omega)
            have HS : Aside (s = sAt R j) := hs
            clear hs
            go_wp2_with (at_builtin; refine wpList_append_fits _ rfl (.tmp 99) (.tmp 104) 22 rfl w2.heap.size 9 i9 1 Try.underlying22 hi hz1 w2.heap.size (mid + j) _ _ rfl (p1.alloc _) ⟨wr.heap.size, 0, none⟩ 1 1 [.string s] rfl rfl (cell_one_new _ _ _) (one_str s) (by omega) ?_)
            intro v1 r1 g7
            have b7 : Below w2.heap.size w2 v1 := below_app br br.size g7 (Nat.le_refl _)
            clear g7
            go_wp2_with fail
            go_roundw
            case rel =>
              have M := mrg_restR SR.out.2.1 hM.out (by omega) (by omega)
              refine ⟨j + 1, _, rfl, by go_num, by omega, b7, ?_, M⟩
              rw [← HS.out]; simpa [Nat.add_assoc] using r1
            case measure => simp [intOf]; omega
          · obtain rfl : rl = j := by omega
            go_wp2_with fail
            go_ret
            have M := hM.out
            refine ⟨w2.heap.size, O, by rw [hrl]; rfl, hB2.trans (br.mono hB2.size), (TS.of_own p1).2, ?_⟩
            refine sorts_end (m := mid) (by omega) SL.out SR.out ?_
            rw [hLl, hRl]; exact M

theorem sort_row : ∀ (n len cap tb off : Nat) (S : List ByteArray) (w : World), len ≤ n → len ≤ 65536 → S.length = len → len ≤ cap → TS w (some ⟨tb, off, none⟩) S → Calls Try.prog 8 #[.slice (some ⟨tb, off, none⟩) len cap] w (SortPost len S w) := by
  intro n
  induction n with
  | zero =>
    intro len cap tb off S w hn _ hS _ hT
    refine (sort_small len cap _ S w hS (by omega) hT).mono fun e w' ⟨he, hb, ht⟩ => ?_
    exact ⟨_, S, he, hb, ht, sorts_small (by omega)⟩
  | succ n ih =>
    intro len cap tb off S w hn h6 hS hlc hT
    by_cases h1 : len ≤ 1
    · refine (sort_small len cap _ S w hS h1 hT).mono fun e w' ⟨he, hb, ht⟩ => ?_
      exact ⟨_, S, he, hb, ht, sorts_small (by omega)⟩
    · exact sort_step len cap tb off S w hS hlc (by omega) h6 hT fun l c tb off S w hl hS hlc hT => ih l c tb off S w (by omega) (by omega) hS hlc hT

theorem sort_any (len cap : Nat) (a : Option Addr) (S : List ByteArray) (w : World) (hS : S.length = len) (h6 : len ≤ 65536) (hlc : len ≤ cap) (hT : TS w a S) : Calls Try.prog 8 #[.slice a len cap] w (SortPost len S w) := by
  by_cases h1 : len ≤ 1
  · refine (sort_small len cap a S w hS h1 hT).mono fun e w' ⟨he, hb, ht⟩ => ?_
    exact ⟨_, S, he, hb, ht, sorts_small (by omega)⟩
  · have h := hT
    obtain ⟨tb, off, h1, _⟩ := h
    obtain rfl := h1 (by omega)
    exact sort_row len len cap tb off S w (Nat.le_refl _) h6 hS hlc hT
end Go.Proofs.Qxb6602904a
