/-
  SEAT b6602904aD: the contracts of holds, ZZholds and fieldsModelCgB1.
-/
import Derived.Test.Qxb6602904aDoorSteps
namespace Go.Proofs.Qxb6602904aDoor
open Go.RowKit

theorem Tryd.info9 : (Tryd.prog.info? 9).map (fun i => (i.zero, i.size, i.bytes)) = some (some (.string ByteArray.empty), 1, 16) := by kernel_rfl

def sAt (S : List ByteArray) (i : Nat) : ByteArray := S.getD i ByteArray.empty
/-- A slice of strings in the world w: its elements are S. -/
def TS (w : World) (a : Option Addr) (S : List ByteArray) : Prop :=
  ∃ tb off, (0 < S.length → a = some ⟨tb, off, none⟩) ∧ ∀ k, k < S.length → w.cell? ⟨tb, off + k, none⟩ = some (.string (sAt S k))

theorem TS.below {w w' : World} {a : Option Addr} {S : List ByteArray} (h : TS w a S) (hb : Below w.heap.size w w') : TS w' a S := by
  obtain ⟨tb, off, h1, h2⟩ := h
  exact ⟨tb, off, h1, fun k hk => (hb.cell (by exact block_lt_of_cell (h2 k hk))).trans (h2 k hk)⟩

/-- Is x among the strings of S? -/
def hol (S : List ByteArray) (x : ByteArray) : Bool := S.any fun o => o.toList == x.toList
theorem hol_take (S : List ByteArray) (x : ByteArray) (k : Nat) (h : k < S.length) : hol (S.take (k + 1)) x = (hol (S.take k) x || (sAt S k).toList == x.toList) := by
  unfold hol sAt
  rw [List.take_succ_eq_append_getElem h, List.any_append]
  simp [h]
theorem hol_hit (S : List ByteArray) (x : ByteArray) (k : Nat) (h : k < S.length) (he : ((sAt S k).toList == x.toList) = true) : hol S x = true := by
  unfold hol
  rw [List.any_eq_true]
  exact ⟨S[k], List.getElem_mem h, by simpa [sAt, h] using he⟩

set_option maxHeartbeats 400000 in
theorem holds_any (len cap : Nat) (a : Option Addr) (S : List ByteArray) (x : ByteArray) (w : World) (v : Bool) (hS : S.length = len) (hl : len ≤ 9223372036854775807) (hT : TS w a S) (hv : Aside (hol S x = v)) :
    Calls Tryd.prog 18 #[.slice a len cap, .string x] w fun e w' => e = .returned (.bool v) ∧ w = w' := by
  have hT' : Aside (TS w a S) := hT
  clear hT
  go_enter Tryd.func18, Tryd.ntmps18
  go_wp2
  go_loop [9] (fun is => ∃ k : Nat, k ≤ len ∧ is = .int .i64 (k : Int) ∧ Aside (hol (S.take k) x = false)) (fun is => len - (intOf is).toNat)
  case atStart => exact ⟨0, Nat.zero_le _, rfl, rfl⟩
  case round =>
    obtain ⟨k, hk, rfl, hno⟩ := hrel
    by_cases hlt : k < len
    · obtain ⟨tb, off, ht1, ht2⟩ := hT'.out
      obtain rfl := ht1 (by omega)
      obtain ⟨s, hs⟩ : ∃ s, s = sAt S k := ⟨_, rfl⟩
      have hcx : w.cell? ⟨tb, off + k, none⟩ = some (.string s) := by rw [hs]; exact ht2 k (by omega)
      have HS : Aside (s = sAt S k) := hs
      clear hs ht2
      cases hq : (s.toList == x.toList) with
      | true =>
        obtain rfl : v = true := by rw [← hv.out]; exact hol_hit S x k (by omega) (by rw [← HS.out]; exact hq)
        go_wp2
        go_ret
        exact ⟨rfl, rfl⟩
      | false =>
        go_wp2
        go_round
        case rel => exact ⟨k + 1, by omega, by go_num, by show _ = _; rw [hol_take S x k (by omega), hno.out, ← HS.out, hq]; rfl⟩
        case measure => simp [intOf]; omega
    · obtain rfl : v = false := by
        rw [← hv.out, ← hno.out, List.take_of_length_le (by omega)]
      go_wp2
      go_ret
      exact ⟨rfl, rfl⟩

theorem zz_holds (len cap : Nat) (a : Option Addr) (S : List ByteArray) (x : ByteArray) (w : World) (v : Bool) (hS : S.length = len) (hl : len ≤ 9223372036854775807) (hT : TS w a S) (hv : Aside (hol S x = v)) :
    Calls Tryd.prog 13 #[.slice a len cap, .string x] w fun e w' => e = .returned (.bool v) ∧ w = w' := by
  go_enter Tryd.func13, Tryd.ntmps13
  go_wp2_with fail
  refine (holds_any len cap a S x _ v hS hl hT hv).mono ?_
  rintro e w' ⟨rfl, rfl⟩
  go_wp2_with fail
  go_ret
  exact ⟨rfl, rfl⟩

theorem one_str (s : ByteArray) : ∀ u ∈ [Value.string s], u.oneCell' = true := by
  intro u hu; simp at hu; subst hu; rfl

theorem own_block {w : World} {base n : Nat} {v : Value} {xs : List Value} (h : w.ownsRow base 9 1 v n xs) (k : Nat) (hk : v.ownBlock = some k) : base ≤ k := by
  rcases h.2 with ⟨rfl, _⟩ | ⟨g, cap, cur, rfl, hb, _⟩
  · simp [Value.ownBlock] at hk
  · simp [Value.ownBlock] at hk; omega

/-- What is owned, as a slice of strings. -/
theorem own_ts {w : World} {base : Nat} {v : Value} {S : List ByteArray} (h : w.ownsRow base 9 1 v S.length (S.map Value.string)) : ∃ a cap, v = .slice a S.length cap ∧ TS w a S := by
  rcases h.2 with ⟨rfl, h0⟩ | ⟨g, cap, cur, rfl, hb, hg, hn, hm, hsz, htk⟩
  · rw [h0]
    exact ⟨none, 0, rfl, 0, 0, fun h => by omega, fun k hk => by omega⟩
  · refine ⟨_, cap, rfl, g, 0, fun _ => rfl, fun k hk => ?_⟩
    rw [Nat.zero_add, h.cellAt k (by omega), List.getElem?_map, List.getElem?_eq_getElem hk]; simp [sAt, hk]

/-- What fieldsModelCgB1 hands back. -/
def ModelPost (s : ByteArray) (w : World) (e : Ending) (w' : World) : Prop :=
  ∃ (a : Option Addr) (cap : Nat) (K : List ByteArray), e = .returned (.slice a K.length cap) ∧ Below w.heap.size w w' ∧ TS w' a K ∧ K.length ≤ 1048577 ∧ K.map (·.data.toList) = Lib.fieldsU s.data.toList

set_option maxHeartbeats 4000000 in
theorem model_any (s : ByteArray) (w : World) (hs : s.size ≤ 1048576) : Calls Tryd.prog 12 #[.string s] w (ModelPost s w) := by
  have hl : s.data.toList.length = s.size := (Lib.size_eq s).symm
  obtain ⟨i9, hi, hz0, hz1, hz2⟩ := info_parts Tryd.info9
  have hz3 : (Value.string ByteArray.empty).cells.size = 1 := rfl
  go_enter Tryd.func12, Tryd.ntmps12
  go_wp2_with (at_make; refine wpList_make_own _ rfl _ _ 26 rfl w.heap.size 9 i9 (.string ByteArray.empty) 1 Tryd.underlying26 hi hz0 hz1 _ _ _ 0 rfl rfl rfl (by rw [hz2]; omega) (by unfold maxLen; omega) (Nat.le_refl _) ?_)
  intro w1 o1 g1
  have b1 : Below w.heap.size w w1 := (Below.refl _ _).grown g1 (Nat.le_refl _) (fun k h => by cases h)
  clear g1
  go_wp2_with fail
  go_loopw [3, 4, 5] (fun ts ss is wr => ∃ (i : Nat) (K : List ByteArray), is = .int .i64 (i : Int) ∧ i ≤ s.size ∧ K.length ≤ i ∧ Below w.heap.size w wr ∧ wr.ownsRow w.heap.size 9 1 ts K.length (K.map Value.string) ∧
      ((ss = .int .i64 (-1) ∧ Aside (Pass s.data.toList (K.map (·.data.toList)) none i)) ∨ (∃ a : Nat, ss = .int .i64 (a : Int) ∧ a < i ∧ Aside (Pass s.data.toList (K.map (·.data.toList)) (some a) i)))) (fun _ _ is _ => s.size - (intOf is).toNat)
  case atStart => exact ⟨0, [], rfl, Nat.zero_le _, Nat.le_refl _, b1, o1, .inl ⟨rfl, pass_start _⟩⟩
  case round =>
    obtain ⟨i, K, rfl, hi1, hK, br, p1, hst⟩ := hrel
    clear o1 b1
    have sr := br.size
    by_cases hlt : i < s.size
    · obtain ⟨hsp, hh⟩ : ∃ n, n = Lib.headSpace (s.data.toList.drop i) := ⟨_, rfl⟩
      have hle : i + hsp ≤ s.size := by
        have := hs_le (s.data.toList.drop i)
        rw [List.length_drop, hl] at this
        omega
      have HH : Aside (hsp = Lib.headSpace (s.data.toList.drop i)) := hh
      have hsw := sw_any s i wr hs hlt
      rw [← hh] at hsw
      clear hh
      rcases hst with ⟨rfl, hP⟩ | ⟨a, rfl, ha, hP⟩
      · go_wp2_with fail
        refine hsw.mono ?_
        clear hsw
        rintro e w' ⟨rfl, rfl⟩
        by_cases h0 : hsp = 0
        · subst h0
          go_wp2_with fail
          go_roundw
          case rel => exact ⟨i + 1, K, by go_num, by omega, by omega, br, p1, .inr ⟨i, rfl, by omega, pass_in_none hP.out (by omega) HH.out.symm⟩⟩
          case measure => simp [intOf]; omega
        · have h0' : 0 < hsp := by omega
          clear h0
          go_wp2_with fail
          go_roundw
          case rel => exact ⟨i + hsp, K, by go_num, by omega, by omega, br, p1, .inl ⟨rfl, by rw [HH.out]; exact pass_out_none hP.out (by omega) (by rw [← HH.out]; omega)⟩⟩
          case measure => simp [intOf]; omega
      · go_wp2_with fail
        refine hsw.mono ?_
        clear hsw
        rintro e w' ⟨rfl, rfl⟩
        by_cases h0 : hsp = 0
        · subst h0
          clear hle
          have da : decide ((a : Int) < 0) = false := decide_eq_false (by omega)
          go_wp2_with fail
          go_roundw
          case rel => exact ⟨i + 1, K, by go_num, by omega, by omega, br, p1, .inr ⟨a, rfl, by omega, pass_in_some hP.out ha (by omega) HH.out.symm⟩⟩
          case measure => simp [intOf]; omega
        · have h0' : 0 < hsp := by omega
          clear h0
          go_wp2_with (at_builtin; refine wpList_append_own _ rfl (.tmp 19) (.tmp 24) 26 rfl w.heap.size 9 i9 (.string ByteArray.empty) 1 16 Tryd.underlying26 hi hz0 hz1 hz2 hz3 (by omega) u3 K.length _ rfl (p1.alloc _) ⟨wr.heap.size, 0, none⟩ 1 1 [.string (s.extract a i)] rfl rfl (cell_one_new _ _ _) (one_str _) (by unfold maxLen; omega) (by omega) (by simp; omega) ?_)
          intro v' w2 o2 g2 _
          have b2 : Below w.heap.size w w2 := (br.alloc br.size _).grown g2 (by have := br.size; simp; omega) (fun k h => own_block p1 k h)
          clear g2
          go_wp2_with fail
          go_roundw
          case rel =>
            refine ⟨i + hsp, K ++ [s.extract a i], by go_num, by omega, by simp; omega, b2, by simpa using o2, .inl ⟨rfl, ?_⟩⟩
            have P := pass_out_some hP.out ha (by omega) (by rw [← HH.out]; omega)
            rw [← HH.out] at P
            rw [List.map_append]
            show Pass _ (_ ++ [(s.extract a i).data.toList]) none _
            rw [Lib.extract_data]
            exact P
          case measure => simp [intOf]; omega
    · obtain rfl : s.size = i := by omega
      rcases hst with ⟨rfl, hP⟩ | ⟨a, rfl, ha, hP⟩
      · go_wp2_with fail
        go_ret
        obtain ⟨ad, cp, hv, ht⟩ := own_ts p1
        refine ⟨ad, cp, K, ?_, br, ht, by omega, pass_end_none hP.out (by omega)⟩
        rw [← hv]; rfl
      · go_wp2_with (at_builtin; refine wpList_append_own _ rfl (.tmp 36) (.tmp 40) 26 rfl w.heap.size 9 i9 (.string ByteArray.empty) 1 16 Tryd.underlying26 hi hz0 hz1 hz2 hz3 (by omega) u3 K.length _ rfl (p1.alloc _) ⟨wr.heap.size, 0, none⟩ 1 1 [.string (s.extract a s.size)] rfl rfl (cell_one_new _ _ _) (one_str _) (by unfold maxLen; omega) (by omega) (by simp; omega) ?_)
        intro v' w2 o2 g2 _
        have b2 : Below w.heap.size w w2 := (br.alloc br.size _).grown g2 (by have := br.size; simp; omega) (fun k h => own_block p1 k h)
        clear g2
        have o3 : w2.ownsRow w.heap.size 9 1 v' (K ++ [s.extract a s.size]).length ((K ++ [s.extract a s.size]).map Value.string) := by simpa using o2
        go_wp2_with fail
        go_ret
        obtain ⟨ad, cp, hv, ht⟩ := own_ts o3
        refine ⟨ad, cp, K ++ [s.extract a s.size], ?_, b2, ht, by simp; omega, ?_⟩
        · rw [← hv]; rfl
        · rw [List.map_append]
          show _ ++ [(s.extract a s.size).data.toList] = _
          rw [Lib.extract_to_end]
          exact pass_end_some hP.out ha hl.symm
end Go.Proofs.Qxb6602904aDoor
