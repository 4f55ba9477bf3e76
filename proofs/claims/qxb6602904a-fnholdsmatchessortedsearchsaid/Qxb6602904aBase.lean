/-
  SEAT b6602904a: slices of strings in memory; the contracts of zzBytes, stringsBytesCgB1, cloneStringsCgB1, holds.
-/
import Derived.Test.Qxb6602904aProg
import Derived.WalkKit
import Derived.WalkSpells
import Derived.WalkLawsBesides
import Derived.Below
import Derived.Laws.OwnMore
import Derived.Deep.QuietTactic
import Derived.BigQuiet
import Derived.Deep.LoopGhost
import Derived.ProofKit
namespace Go.Proofs.Qxb6602904a
open Go.RowKit

theorem Try.info9 : (Try.prog.info? 9).map (fun i => (i.zero, i.size, i.bytes)) = some (some (.string ByteArray.empty), 1, 16) := by kernel_rfl

/-- The string in cell i. -/
def sAt (S : List ByteArray) (i : Nat) : ByteArray := S.getD i ByteArray.empty

/-- A slice of strings in the world w: its elements are S. -/
def TS (w : World) (a : Option Addr) (S : List ByteArray) : Prop :=
  ∃ tb off, (0 < S.length → a = some ⟨tb, off, none⟩) ∧ ∀ k, k < S.length → w.cell? ⟨tb, off + k, none⟩ = some (.string (sAt S k))

theorem TS.below {w w' : World} {a : Option Addr} {S : List ByteArray} (h : TS w a S) (hb : Below w.heap.size w w') : TS w' a S := by
  obtain ⟨tb, off, h1, h2⟩ := h
  exact ⟨tb, off, h1, fun k hk => (hb.cell (by exact block_lt_of_cell (h2 k hk))).trans (h2 k hk)⟩

/-- What came in: a slice of strings. -/
def IsStrs (w : World) (a : Option Addr) (len cap : Nat) (ss : List ByteArray) : Prop :=
  (a = none ∧ len = 0 ∧ cap = 0 ∧ ss = []) ∨
  ∃ x, a = some x ∧ len ≤ cap ∧ cap ≤ maxLen ∧ ss.length = cap ∧ (∀ i, i < ss.length → w.cell? (x.add i) = some (.string (ss.getD i ByteArray.empty))) ∧ ∀ s ∈ ss, s.size ≤ maxLen

theorem IsStrs.len {w : World} {a : Option Addr} {len cap : Nat} {ss : List ByteArray} (h : IsStrs w a len cap ss) : (ss.take len).length = len := by
  rcases h with ⟨_, rfl, _, rfl⟩ | ⟨x, _, hl, _, hz, _⟩
  · rfl
  · rw [List.length_take]; omega

theorem IsStrs.max {w : World} {a : Option Addr} {len cap : Nat} {ss : List ByteArray} (h : IsStrs w a len cap ss) : len ≤ 9223372036854775807 := by
  rcases h with ⟨_, rfl, _⟩ | ⟨x, _, h2, h3, _⟩
  · exact Nat.zero_le _
  · unfold maxLen at h3; omega

theorem IsStrs.ts {w : World} {a : Option Addr} {len cap : Nat} {ss : List ByteArray} (h : IsStrs w a len cap ss) : TS w a (ss.take len) := by
  have hlen := h.len
  rcases h with ⟨rfl, rfl, rfl, rfl⟩ | ⟨x, rfl, h2, h3, h4, h5, h6⟩
  · exact ⟨0, 0, fun h => by simp at h, fun k hk => by simp at hk⟩
  · obtain ⟨b, off, spot⟩ := x
    refine ⟨b, off, fun h => ?_, fun k hk => ?_⟩
    · have : spot = none := by simpa [Addr.add] using World.cell?_spot (h5 0 (by omega))
      rw [this]
    · have hs : spot = none := by simpa [Addr.add] using World.cell?_spot (h5 0 (by omega))
      subst hs
      have g := h5 k (by omega)
      rw [WideShapes.add_plain] at g
      rw [g]
      simp [sAt, List.getD_eq_getElem?_getD, show k < len by omega]

/-- Is x among the strings of S? -/
def hol (S : List ByteArray) (x : ByteArray) : Bool := S.any fun o => o.toList == x.toList

theorem hol_take (S : List ByteArray) (x : ByteArray) (k : Nat) (h : k < S.length) : hol (S.take (k + 1)) x = (hol (S.take k) x || (sAt S k).toList == x.toList) := by
  unfold hol sAt
  rw [List.take_succ_eq_append_getElem h, List.any_append]
  simp [h]

theorem hol_app (S T : List ByteArray) (x : ByteArray) : hol (S ++ T) x = (hol S x || hol T x) := by unfold hol; rw [List.any_append]

theorem hol_hit (S : List ByteArray) (x : ByteArray) (k : Nat) (h : k < S.length) (he : ((sAt S k).toList == x.toList) = true) : hol S x = true := by
  unfold hol
  rw [List.any_eq_true]
  exact ⟨S[k], List.getElem_mem h, by simpa [sAt, h] using he⟩

set_option maxHeartbeats 400000 in
theorem holds_any (len cap : Nat) (a : Option Addr) (S : List ByteArray) (x : ByteArray) (w : World) (v : Bool) (hS : S.length = len) (hl : len ≤ 9223372036854775807) (hT : TS w a S) (hv : Aside (hol S x = v)) :
    Calls Try.prog 12 #[.slice a len cap, .string x] w fun e w' => e = .returned (.bool v) ∧ w = w' := by
  have hT' : Aside (TS w a S) := hT
  clear hT
  go_enter Try.func12, Try.ntmps12
  go_wp2
  go_loop [9] (fun is => ∃ k : Nat, k ≤ len ∧ is = .int .i64 (k : Int) ∧ Aside (hol (S.take k) x = false)) (fun is => len - (intOf is).toNat)
  case atStart => exact ⟨0, Nat.zero_le _, rfl, rfl⟩
  case round =>
    obtain ⟨k, hk, rfl, hno⟩ := hrel
    by_cases hlt : k < len
    · obtain ⟨tb, off, ht1, ht2⟩ := hT'.out
      obtain rfl := ht1 (by omega)
      obtain ⟨s, hs⟩ : ∃ s, s = sAt S k := ⟨_, rfl⟩
      have hcx : w.cell? ⟨tb, off + k, none⟩ = some (.string s) := by rw [hs]; exact ht2 k (by omega)
      have HS : Aside (s = sAt S k) := hs
      clear hs ht2
      cases hq : (s.toList == x.toList) with
      | true =>
        obtain rfl : v = true := by rw [← hv.out]; exact hol_hit S x k (by omega) (by rw [← HS.out]; exact hq)
        go_wp2
        go_ret
        exact ⟨rfl, rfl⟩
      | false =>
        go_wp2
        go_round
        case rel => exact ⟨k + 1, by omega, by go_num, by show _ = _; rw [hol_take S x k (by omega), hno.out, ← HS.out, hq]; rfl⟩
        case measure => simp [intOf]; omega
    · obtain rfl : v = false := by
        rw [← hv.out, ← hno.out, List.take_of_length_le (by omega)]
      go_wp2
      go_ret
      exact ⟨rfl, rfl⟩

set_option maxHeartbeats 400000 in
theorem zz_holds (len cap : Nat) (a : Option Addr) (S : List ByteArray) (x : ByteArray) (w : World) (v : Bool) (hS : S.length = len) (hl : len ≤ 9223372036854775807) (hT : TS w a S) (hv : Aside (hol S x = v)) :
    Calls Try.prog 9 #[.slice a len cap, .string x] w fun e w' => e = .returned (.bool v) ∧ w = w' := by
  go_enter Try.func9, Try.ntmps9
  go_wp2_with fail
  refine (holds_any len cap a S x _ v hS hl hT hv).mono ?_
  rintro e w' ⟨rfl, rfl⟩
  go_wp2
  go_ret
  exact ⟨rfl, rfl⟩

theorem clone_nil (w : World) : Calls Try.prog 7 #[.slice none 0 0] w fun e w' => e = .returned (.slice none 0 0) ∧ w = w' := by
  have hn := fun w => Lib.run_eql_slice_nil (P := Try.prog) w 22 9 none 0 0 0 0 Try.underlying22
  go_enter Try.func7, Try.ntmps7
  go_wp2
  go_ret
  exact ⟨rfl, rfl⟩

set_option maxHeartbeats 400000 in
theorem clone_row (x : Addr) (len cap : Nat) (S : List ByteArray) (w : World) (hS : S.length = len) (hl : len ≤ 1048576) (hT : TS w (some x) S) :
    Calls Try.prog 7 #[.slice (some x) len cap] w fun e w' => e = .returned (.slice (some ⟨w.heap.size, 0, none⟩) len len) ∧ Below w.heap.size w w' ∧ TS w' (some ⟨w.heap.size, 0, none⟩) S := by
  have hT' : Aside (TS w (some x) S) := hT
  clear hT
  have hn := fun w => Lib.run_eql_slice_nil (P := Try.prog) w 22 9 (some x) len cap 0 0 Try.underlying22
  obtain ⟨i0, hi, hz0, hz1, hz2⟩ := info_parts Try.info9
  go_enter Try.func7, Try.ntmps7
  go_wp2_with (at_make; refine wpList_make_full _ rfl _ _ 22 rfl w.heap.size 9 i0 (.string ByteArray.empty) 1 Try.underlying22 hi hz0 hz1 _ _ _ _ len rfl rfl rfl rfl (by rw [hz2]; omega) (by unfold maxLen; omega) (Nat.le_refl _) ?_)
  intro w1 hown hgrow
  have hb1 : Below w.heap.size w w1 := (Below.refl _ _).grown hgrow (Nat.le_refl _) (fun k h => by cases h)
  clear hgrow hi hz0 hz1 hz2
  go_wp2
  go_loopw [4] (fun i wr => ∃ k : Nat, k ≤ len ∧ i = .int .i64 k ∧ Below w.heap.size w wr ∧ ∃ xs : List Value, wr.ownsRow w.heap.size 9 1 (.slice (some ⟨w.heap.size, 0, none⟩) len len) len xs ∧ ∀ j, j < k → xs[j]? = some (.string (sAt S j)))
    (fun i _ => len - (intOf i).toNat)
  case atStart => exact ⟨0, Nat.zero_le _, rfl, hb1, _, hown, fun j h => by omega⟩
  case round =>
    obtain ⟨k, hk, rfl, hbel, xs, hox, hxs'⟩ := hrel
    have hxs : Aside (∀ j, j < k → xs[j]? = some (.string (sAt S j))) := hxs'
    clear hown hb1 hxs'
    have hxl : xs.length = len := by have := hox.1; omega
    by_cases hlt : k < len
    · obtain ⟨tb, off, ht1, ht2⟩ := hT'.out.below hbel
      obtain rfl : x = ⟨tb, off, none⟩ := by have := ht1 (by omega); simpa using this
      obtain ⟨s, hs⟩ : ∃ s, s = sAt S k := ⟨_, rfl⟩
      have hsrc : wr.cell? ⟨tb, off + k, none⟩ = some (.string s) := by rw [hs]; exact ht2 k (by omega)
      have HS : Aside (s = sAt S k) := hs
      clear hs ht2
      obtain ⟨u, hu⟩ : ∃ u, xs[k]? = some u := ⟨xs[k], by simp [hxl, hlt]⟩
      have hdst : wr.cell? ⟨w.heap.size, k, none⟩ = some u := by rw [hox.cellAt k (by omega)]; exact hu
      have hfr : wr.frozen? ⟨w.heap.size, k, none⟩ = false := hox.frozenAt k
      clear hu
      go_wp2
      go_roundw
      case rel =>
        refine ⟨k + 1, by omega, by go_num, hbel.setCell (Nat.le_refl _) _, _, (hox.stored k _).1, fun j hj => ?_⟩
        rw [List.getElem?_set]
        by_cases e : k = j
        · subst e; rw [if_pos rfl, if_pos (by omega), HS.out]
        · rw [if_neg e]; exact hxs.out j (by omega)
      case measure => simp [intOf]; omega
    · go_wp2
      go_ret
      exact ⟨rfl, hbel, w.heap.size, 0, fun _ => rfl, fun j hj => by rw [Nat.zero_add, hox.cellAt j (by omega)]; exact hxs.out j (by omega)⟩

theorem clone_any (a : Option Addr) (len cap : Nat) (S : List ByteArray) (w : World) (h0 : a = none → len = 0 ∧ cap = 0) (hS : S.length = len) (hl : len ≤ 1048576) (hT : TS w a S) :
    Calls Try.prog 7 #[.slice a len cap] w fun e w' => ∃ a', e = .returned (.slice a' len len) ∧ Below w.heap.size w w' ∧ TS w' a' S := by
  cases a with
  | none =>
    obtain ⟨rfl, rfl⟩ := h0 rfl
    refine (clone_nil w).mono fun e w' ⟨he, hw⟩ => ?_
    subst hw
    exact ⟨none, he, Below.refl _ _, hT⟩
  | some x =>
    refine (clone_row x len cap S w hS hl hT).mono fun e w' ⟨he, hb, ht⟩ => ?_
    exact ⟨_, he, hb, ht⟩

theorem IsStrs.nil0 {w : World} {a : Option Addr} {len cap : Nat} {ss : List ByteArray} (h : IsStrs w a len cap ss) : a = none → len = 0 ∧ cap = 0 := by
  rcases h with ⟨_, h2, h3, _⟩ | ⟨x, rfl, _⟩
  · exact fun _ => ⟨h2, h3⟩
  · intro h; cases h

def AnInt (e : Ending) : Prop := ∃ n : Int, e = .returned (.int .i64 n)
def ABool (e : Ending) : Prop := ∃ b : Bool, e = .returned (.bool b)

set_option maxHeartbeats 400000 in
theorem sb_any (len cap : Nat) (a : Option Addr) (S : List ByteArray) (w : World) (hS : S.length = len) (hl : len ≤ 9223372036854775807) (hT : TS w a S) :
    Calls Try.prog 6 #[.slice a len cap] w fun e w' => AnInt e ∧ w = w' := by
  have hT' : Aside (TS w a S) := hT
  clear hT
  go_enter Try.func6, Try.ntmps6
  go_wp2
  go_loop [3, 4] (fun ns is => ∃ (k : Nat) (n : Int), k ≤ len ∧ is = .int .i64 (k : Int) ∧ ns = .int .i64 n) (fun _ is => len - (intOf is).toNat)
  case atStart => exact ⟨0, _, Nat.zero_le _, rfl, rfl⟩
  case round =>
    obtain ⟨k, n, hk, rfl, rfl⟩ := hrel
    by_cases hlt : k < len
    · obtain ⟨tb, off, ht1, ht2⟩ := hT'.out
      obtain rfl := ht1 (by omega)
      obtain ⟨s, hs⟩ : ∃ s, s = sAt S k := ⟨_, rfl⟩
      have hcx : w.cell? ⟨tb, off + k, none⟩ = some (.string s) := by rw [hs]; exact ht2 k (by omega)
      clear hs ht2
      go_wp2
      · go_ret
        exact ⟨⟨_, rfl⟩, rfl⟩
      · go_round
        case rel => exact ⟨k + 1, _, by omega, by go_num, rfl⟩
        case measure => simp [intOf]; omega
    · go_wp2
      go_ret
      exact ⟨⟨_, rfl⟩, rfl⟩

set_option maxHeartbeats 1000000 in
theorem zzb_oc (len1 cap1 : Nat) (a1 : Option Addr) (S1 : List ByteArray) (len2 cap2 : Nat) (a2 : Option Addr) (S2 : List ByteArray) (x : ByteArray) (w : World) (hS1 : S1.length = len1) (hl1 : len1 ≤ 9223372036854775807) (hT1 : TS w a1 S1) (hS2 : S2.length = len2) (hl2 : len2 ≤ 9223372036854775807) (hT2 : TS w a2 S2) :
    Calls Try.prog 11 #[.slice a1 len1 cap1, .slice a2 len2 cap2, .string x] w fun e w' => ABool e ∧ w = w' := by
  have hT1' : Aside (TS w a1 S1) := hT1
  have hT2' : Aside (TS w a2 S2) := hT2
  clear hT1 hT2
  go_enter Try.func11, Try.ntmps11
  by_cases hl1 : len1 ≤ 1048576
  · go_wp2
    go_loop [7, 8] (fun ns is => ∃ (k : Nat) (n : Int), k ≤ len1 ∧ is = .int .i64 (k : Int) ∧ ns = .int .i64 n) (fun _ is => len1 - (intOf is).toNat)
    case atStart => exact ⟨0, _, Nat.zero_le _, rfl, rfl⟩
    case round =>
      obtain ⟨k, n, hk, rfl, rfl⟩ := hrel
      by_cases hlt : k < len1
      · obtain ⟨tb, off, ht1, ht2⟩ := hT1'.out
        obtain rfl := ht1 (by omega)
        obtain ⟨s, hs⟩ : ∃ s, s = sAt S1 k := ⟨_, rfl⟩
        have hcx : w.cell? ⟨tb, off + k, none⟩ = some (.string s) := by rw [hs]; exact ht2 k (by omega)
        clear hs ht2
        go_wp2
        · go_ret
          exact ⟨⟨_, rfl⟩, rfl⟩
        · go_ret
          exact ⟨⟨_, rfl⟩, rfl⟩
        · go_round
          case rel => exact ⟨k + 1, _, by omega, by go_num, rfl⟩
          case measure => simp [intOf]; omega
      · by_cases hl2 : len2 ≤ 1048576
        · go_wp2
          · go_ret
            exact ⟨⟨_, rfl⟩, rfl⟩
          go_loop [7, 9] (fun ns is => ∃ (j : Nat) (n : Int), j ≤ len2 ∧ is = .int .i64 (j : Int) ∧ ns = .int .i64 n) (fun _ is => len2 - (intOf is).toNat)
          case atStart => exact ⟨0, _, Nat.zero_le _, rfl, rfl⟩
          case round =>
            obtain ⟨j, n2, hj, rfl, rfl⟩ := hrel
            by_cases hlt2 : j < len2
            · obtain ⟨tb, off, ht1, ht2⟩ := hT2'.out
              obtain rfl := ht1 (by omega)
              obtain ⟨s, hs⟩ : ∃ s, s = sAt S2 j := ⟨_, rfl⟩
              have hcx : w.cell? ⟨tb, off + j, none⟩ = some (.string s) := by rw [hs]; exact ht2 j (by omega)
              clear hs ht2
              go_wp2
              · go_ret
                exact ⟨⟨_, rfl⟩, rfl⟩
              · go_ret
                exact ⟨⟨_, rfl⟩, rfl⟩
              · go_round
                case rel => exact ⟨j + 1, _, by omega, by go_num, rfl⟩
                case measure => simp [intOf]; omega
            · go_wp2
              all_goals (go_ret; exact ⟨⟨_, rfl⟩, rfl⟩)
        · go_wp2
          go_ret
          exact ⟨⟨_, rfl⟩, rfl⟩
  · go_wp2
    go_ret
    exact ⟨⟨_, rfl⟩, rfl⟩

set_option maxHeartbeats 1000000 in
theorem zzb_ms (len1 cap1 : Nat) (a1 : Option Addr) (S1 : List ByteArray) (x : ByteArray) (w : World) (hS1 : S1.length = len1) (hl1 : len1 ≤ 9223372036854775807) (hT1 : TS w a1 S1) :
    Calls Try.prog 5 #[.slice a1 len1 cap1, .string x] w fun e w' => ABool e ∧ w = w' := by
  have hT1' : Aside (TS w a1 S1) := hT1
  clear hT1
  go_enter Try.func5, Try.ntmps5
  by_cases hl1 : len1 ≤ 1048576
  · go_wp2
    go_loop [5, 6] (fun ns is => ∃ (k : Nat) (n : Int), k ≤ len1 ∧ is = .int .i64 (k : Int) ∧ ns = .int .i64 n) (fun _ is => len1 - (intOf is).toNat)
    case atStart => exact ⟨0, _, Nat.zero_le _, rfl, rfl⟩
    case round =>
      obtain ⟨k, n, hk, rfl, rfl⟩ := hrel
      by_cases hlt : k < len1
      · obtain ⟨tb, off, ht1, ht2⟩ := hT1'.out
        obtain rfl := ht1 (by omega)
        obtain ⟨s, hs⟩ : ∃ s, s = sAt S1 k := ⟨_, rfl⟩
        have hcx : w.cell? ⟨tb, off + k, none⟩ = some (.string s) := by rw [hs]; exact ht2 k (by omega)
        clear hs ht2
        go_wp2
        · go_ret
          exact ⟨⟨_, rfl⟩, rfl⟩
        · go_ret
          exact ⟨⟨_, rfl⟩, rfl⟩
        · go_round
          case rel => exact ⟨k + 1, _, by omega, by go_num, rfl⟩
          case measure => simp [intOf]; omega
      · go_wp2
        all_goals (go_ret; exact ⟨⟨_, rfl⟩, rfl⟩)
  · go_wp2
    go_ret
    exact ⟨⟨_, rfl⟩, rfl⟩
end Go.Proofs.Qxb6602904a
