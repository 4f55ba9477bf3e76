/-
  SEAT b6602725a: the contract of cloneBytes.
-/
import Derived.Test.Qxb6602725aProg
import Derived.Test.Qxb6602725aPlain
import Derived.WalkKit
import Derived.WalkSpells
import Derived.WalkLawsBesides
import Derived.Below
import Derived.Laws.OwnMore
import Derived.Deep.QuietTactic
import Derived.BigQuiet
namespace Go.Proofs.Qxb6602725a
open Go.RowKit

theorem Try.info5 : (Try.prog.info? 5).map (fun i => (i.zero, i.size, i.bytes)) = some (some (.int .u8 0), 1, 1) := by kernel_rfl

theorem clone_nil (w : World) : Calls Try.prog 8 #[.slice none 0 0] w fun e w' => e = .returned (.slice none 0 0) ∧ w' = w := by
  have hn := fun w => Lib.run_eql_slice_nil (P := Try.prog) w 22 5 none 0 0 0 0 Try.underlying22
  go_enter Try.func8, Try.ntmps8
  go_wp2
  go_ret
  exact ⟨rfl, rfl⟩

set_option maxHeartbeats 400000 in
theorem clone_row (x : Addr) (b off len cap : Nat) (Z : List Int) (w : World) (hx : 0 < len → x = ⟨b, off, none⟩) (hZ : Z.length = len) (hl : len ≤ 1048576) (hb : 0 < len → b < w.heap.size) (hc : ∀ k, k < len → w.cell? ⟨b, off + k, none⟩ = some (.int .u8 (Z.getD k 0))) :
    Calls Try.prog 8 #[.slice (some x) len cap] w fun e w' => e = .returned (.slice (some ⟨w.heap.size, 0, none⟩) len len) ∧ Below w.heap.size w w' ∧ w.heap.size < w'.heap.size ∧ ∀ k, k < len → w'.cell? ⟨w.heap.size, k, none⟩ = some (.int .u8 (Z.getD k 0)) := by
  have hn := fun w => Lib.run_eql_slice_nil (P := Try.prog) w 22 5 (some x) len cap 0 0 Try.underlying22
  obtain ⟨i0, hi, hz0, hz1, hz2⟩ := info_parts Try.info5
  go_enter Try.func8, Try.ntmps8
  go_wp2_with (at_make; refine wpList_make_full _ rfl _ _ 22 rfl w.heap.size 5 i0 (.int .u8 0) 1 Try.underlying22 hi hz0 hz1 _ _ _ _ len rfl rfl rfl rfl (by rw [hz2]; omega) (by unfold maxLen; omega) (Nat.le_refl _) ?_)
  intro w1 hown hgrow
  have hb1 : Below w.heap.size w w1 := (Below.refl _ _).grown hgrow (Nat.le_refl _) (fun k h => by cases h)
  clear hgrow hi hz0 hz1 hz2
  go_wp2
  go_loopw [4] (fun i wr => ∃ k : Nat, k ≤ len ∧ i = .int .i64 k ∧ Below w.heap.size w wr ∧ ∃ xs : List Value, wr.ownsRow w.heap.size 5 1 (.slice (some ⟨w.heap.size, 0, none⟩) len len) len xs ∧ ∀ j, j < k → xs[j]? = some (.int .u8 (Z.getD j 0)))
    (fun i _ => len - (intOf i).toNat)
  case atStart => exact ⟨0, Nat.zero_le _, rfl, hb1, _, hown, fun j h => by omega⟩
  case round =>
    obtain ⟨k, hk, rfl, hbel, xs, hox, hxs⟩ := hrel
    clear hown hb1
    have hxl : xs.length = len := by have := hox.1; omega
    by_cases hlt : k < len
    · obtain rfl := hx (by omega)
      have hsrc : wr.cell? ⟨b, off + k, none⟩ = some (.int .u8 (Z.getD k 0)) := (hbel.cell (by exact hb (by omega))).trans (hc k hlt)
      obtain ⟨u, hu⟩ : ∃ u, xs[k]? = some u := ⟨xs[k], by simp [hxl, hlt]⟩
      have hdst : wr.cell? ⟨w.heap.size, k, none⟩ = some u := by rw [hox.cellAt k (by omega)]; exact hu
      have hfr : wr.frozen? ⟨w.heap.size, k, none⟩ = false := hox.frozenAt k
      go_wp2
      go_roundw
      case rel =>
        refine ⟨k + 1, by omega, by go_num, hbel.setCell (Nat.le_refl _) _, _, (hox.stored k _).1, fun j hj => ?_⟩
        rw [List.getElem?_set]
        by_cases e : k = j
        · subst e; rw [if_pos rfl, if_pos (by omega)]; simp [hZ, hlt]
        · rw [if_neg e]; exact hxs j (by omega)
      case measure => simp [intOf]; omega
    · go_wp2
      go_ret
      have hsz : w.heap.size < wr.heap.size := by
        rcases hox.2 with ⟨h, _⟩ | ⟨g, cp, cur, h, _, hg, _⟩
        · simp at h
        · simp at h; obtain ⟨rfl, _⟩ := h
          exact (Array.getElem?_eq_some_iff.1 hg).1
      exact ⟨rfl, hbel, hsz, fun j hj => by rw [hox.cellAt j (by omega)]; exact hxs j (by omega)⟩
end Go.Proofs.Qxb6602725a
