/-
  SEAT b6602725a: cloneBytes over what came in; ZZPastString.
-/
import Derived.Test.Qxb6602725aPastStr
import Derived.ProofKit
namespace Go.Proofs.Qxb6602725a
open Go.RowKit

def IsRow (k : IntKind) (w : World) (a : Option Addr) (len cap : Nat) (zs : List Int) : Prop :=
  (a = none ∧ len = 0 ∧ cap = 0 ∧ zs = []) ∨
  ∃ x, a = some x ∧ len ≤ cap ∧ cap ≤ maxLen ∧ zs.length = cap ∧ (∀ i, i < zs.length → w.cell? (x.add i) = some (.int k (zs.getD i 0))) ∧ ∀ n ∈ zs, (Lit.int k n).wf = true

/-- The elements of what came in. -/
theorem IsRow.len {k : IntKind} {w : World} {a : Option Addr} {len cap : Nat} {zs : List Int} (h : IsRow k w a len cap zs) : (zs.take len).length = len := by
  rcases h with ⟨_, rfl, _, rfl⟩ | ⟨x, _, hl, _, hz, _⟩
  · rfl
  · rw [List.length_take]; omega

theorem IsRow.below {k : IntKind} {w w' : World} {a : Option Addr} {len cap : Nat} {zs : List Int} (h : IsRow k w a len cap zs) (hb : Below w.heap.size w w') : IsRow k w' a len cap zs := by
  rcases h with h | ⟨x, h1, h2, h3, h4, h5, h6⟩
  · exact .inl h
  · refine .inr ⟨x, h1, h2, h3, h4, fun i hi => ?_, h6⟩
    have hc := h5 i hi
    exact (hb.cell (by exact block_lt_of_cell hc)).trans hc

/-- The text's cells in the world w: nil or at the head of a block. -/
def TX (w : World) (a : Option Addr) (Z : List Int) : Prop :=
  ∃ tb off, (0 < Z.length → a = some ⟨tb, off, none⟩) ∧ ∀ k, k < Z.length → w.cell? ⟨tb, off + k, none⟩ = some (.int .u8 (Z.getD k 0))

theorem TX.below {w w' : World} {a : Option Addr} {Z : List Int} (h : TX w a Z) (hb : Below w.heap.size w w') : TX w' a Z := by
  obtain ⟨tb, off, h1, h2⟩ := h
  exact ⟨tb, off, h1, fun k hk => (hb.cell (by exact block_lt_of_cell (h2 k hk))).trans (h2 k hk)⟩

theorem TX.tb {w w' : World} {a : Option Addr} {Z : List Int} {R : Nat} (h : TX w a Z) (hR : w.heap.size = R) (hb : Below R w w') : ∃ tb off, TB w' R a Z tb off := by
  subst hR
  obtain ⟨tb, off, h1, h2⟩ := h
  exact ⟨tb, off, fun h => block_lt_of_cell (h2 0 h), h1, fun k hk => (hb.cell (by exact block_lt_of_cell (h2 k hk))).trans (h2 k hk)⟩

theorem clone_any (a : Option Addr) (len cap : Nat) (zs : List Int) (w : World) (h : IsRow .u8 w a len cap zs) (hl : len ≤ 1048576) :
    Calls Try.prog 8 #[.slice a len cap] w fun e w' => ∃ a', e = .returned (.slice a' len len) ∧ Below w.heap.size w w' ∧ TX w' a' (zs.take len) := by
  have hlen := h.len
  rcases h with ⟨rfl, rfl, rfl, rfl⟩ | ⟨x, rfl, h2, h3, h4, h5, h6⟩
  · refine (clone_nil w).mono fun e w' ⟨he, hw⟩ => ?_
    subst hw
    exact ⟨none, he, Below.refl _ _, 0, 0, fun h => by simp at h, fun k hk => by simp at hk⟩
  · obtain ⟨b, off, spot⟩ := x
    have hspot : 0 < len → spot = none := fun h => by simpa [Addr.add] using World.cell?_spot (h5 0 (by omega))
    have hc : ∀ k, k < len → spot = none ∧ w.cell? ⟨b, off + k, none⟩ = some (.int .u8 ((zs.take len).getD k 0)) := by
      intro k hk
      have g := h5 k (by omega)
      have hs := hspot (by omega)
      subst hs
      refine ⟨rfl, ?_⟩
      rw [show (zs.take len).getD k 0 = zs.getD k 0 from by simp [List.getD_eq_getElem?_getD, hk], ← WideShapes.add_plain]
      exact g
    refine (clone_row ⟨b, off, spot⟩ b off len cap (zs.take len) w (fun h => by rw [(hc 0 h).1]) hlen hl (fun h => block_lt_of_cell (hc 0 h).2) (fun k hk => (hc k hk).2)).mono fun e w' ⟨he, hb, _, hcell⟩ => ?_
    exact ⟨_, he, hb, w.heap.size, 0, fun _ => rfl, fun k hk => by rw [Nat.zero_add]; exact hcell k (by omega)⟩

set_option maxHeartbeats 400000 in
theorem zz_past (len tc : Nat) (ta : Option Addr) (Z : List Int) (w : World) (i0 : Nat) (P E : Bool) (N : Nat) (hZ : Z.length = len) (hl : len ≤ 2097152) (hi0 : i0 ≤ len) (hT : TX w ta Z)
    (hres : Aside (Pl.psAt Z (i0 + 1) true = (P, E, N))) :
    Calls Try.prog 9 #[.slice ta len tc, .int .i64 i0] w fun e w' => e = .returned (.tuple #[.bool P, .bool E, .int .i64 N]) ∧ Below w.heap.size w w' := by
  go_enter Try.func9, Try.ntmps9
  go_wp2_with fail
  have hA1 : Below w.heap.size w (w.alloc (Obj.cells #[Value.slice ta len tc, Value.int IntKind.i64 ↑i0] 33)) := (Below.refl _ _).alloc (Nat.le_refl _) _
  obtain ⟨tb, off, hTB⟩ := hT.tb rfl hA1
  refine (past_str w.heap.size tb off len tc ta Z _ i0 P E N hZ hl hi0 hTB ⟨by simp, by simp, by simp⟩ hres).mono ?_
  rintro e w1 ⟨rfl, ⟨c0, c1, cf⟩, hb1, hs1⟩
  go_wp2
  go_quiet (fail)
  go_wp2
  go_ret3
  exact ⟨rfl, below_drewN (hA1.trans hb1) _⟩
end Go.Proofs.Qxb6602725a
