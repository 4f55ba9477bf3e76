/-
  SEAT b6602725a: the contract of (*jsonReader).pastString.
-/
import Derived.Test.Qxb6602725aClone
import Derived.Deep.LoopGhost
namespace Go.Proofs.Qxb6602725a
open Go.RowKit

/-- The reader's two fields lie in block R. -/
def RD (w : World) (R : Nat) (v : Value) (p : Int) : Prop :=
  w.cell? ⟨R, 0, none⟩ = some v ∧ w.cell? ⟨R, 1, none⟩ = some (.int .i64 p) ∧ w.frozen? ⟨R, 1, none⟩ = false

/-- The text's cells, all below block R. -/
def TB (w : World) (R : Nat) (a : Option Addr) (Z : List Int) (tb off : Nat) : Prop :=
  (0 < Z.length → tb < R) ∧ (0 < Z.length → a = some ⟨tb, off, none⟩) ∧ ∀ k, k < Z.length → w.cell? ⟨tb, off + k, none⟩ = some (.int .u8 (Z.getD k 0))

theorem TB.below {w w' : World} {R : Nat} {a : Option Addr} {Z : List Int} {tb off : Nat} (h : TB w R a Z tb off) (hb : Below R w w') : TB w' R a Z tb off :=
  ⟨h.1, h.2.1, fun k hk => (hb.cell (by exact h.1 (by omega))).trans (h.2.2 k hk)⟩

theorem RD.set {w : World} {R : Nat} {v : Value} {p : Int} (h : RD w R v p) (q : Int) : RD (w.setCell ⟨R, 1, none⟩ (.int .i64 q)) R v q :=
  ⟨(World.cell?_setCell_other w ⟨R, 1, none⟩ ⟨R, 0, none⟩ _ (by simp)).trans h.1, World.cell?_setCell_same w _ _ h.2.1, by rw [World.frozen?_setCell]; exact h.2.2⟩

theorem below_set {w wr : World} {R : Nat} (h : Below R w wr) (v : Value) : Below R w (wr.setCell ⟨R, 1, none⟩ v) := h.setCell (p := ⟨R, 1, none⟩) (Nat.le_refl R) v

theorem RD.drewN {w : World} {R : Nat} {v : Value} {p : Int} (h : RD w R v p) (n : Nat) : RD (w.drewN n) R v p := h

theorem size_set (w : World) (a : Addr) (v : Value) : (w.setCell a v).heap.size = w.heap.size := by simp [World.setCell]

set_option maxHeartbeats 1000000 in
theorem past_str (R tb off len tc : Nat) (ta : Option Addr) (Z : List Int) (w : World) (i0 : Nat) (P E : Bool) (N : Nat) (hZ : Z.length = len) (hl : len ≤ 2097152) (hi0 : i0 ≤ len) (hT : TB w R ta Z tb off) (hR : RD w R (.slice ta len tc) i0)
    (hres : Aside (Pl.psAt Z (i0 + 1) true = (P, E, N))) :
    Calls Try.prog 14 #[.pointer (some ⟨R, 0, none⟩)] w fun e w' => e = .returned (.tuple #[.bool P, .bool E]) ∧ RD w' R (.slice ta len tc) N ∧ Below R w w' ∧ w'.heap.size = w.heap.size := by
  have hR0 : Aside (RD w R (.slice ta len tc) i0) := hR
  obtain ⟨hr0, hr1, hrf⟩ := hR
  go_enter Try.func14, Try.ntmps14
  go_wp2
  go_loopg [2] (len + 3) (fun k p wr => ∃ (i : Nat) (pb : Bool), k + i = len + i0 + 4 ∧ p = .bool pb ∧ i ≤ len + 1 ∧ RD wr R (.slice ta len tc) i ∧ Below R w wr ∧ wr.heap.size = w.heap.size ∧ Aside (Pl.psAt Z i pb = (P, E, N)))
  case atStart => exact ⟨i0 + 1, true, by omega, rfl, by omega, by simpa using hR0.out.set (↑i0 + 1), below_set (Below.refl _ _) _, size_set _ _ _, hres⟩
  case round =>
    obtain ⟨i, pb, hk, rfl, hi, hRD, hbel, hsz, hA⟩ := hrel
    clear hR0 hr0 hr1 hrf
    have hRD0 : Aside (RD wr R (.slice ta len tc) i) := hRD
    obtain ⟨c0, c1, cf⟩ := hRD
    have hT' : Aside (TB wr R ta Z tb off) := hT.below hbel
    clear hT
    by_cases hlt : i < len
    · obtain rfl : ta = some ⟨tb, off, none⟩ := hT'.out.2.1 (by omega)
      obtain ⟨c, hc⟩ : ∃ c, c = Z.getD i 0 := ⟨_, rfl⟩
      have hcx : wr.cell? ⟨tb, off + i, none⟩ = some (.int .u8 c) := by rw [hc]; exact hT'.out.2.2 i (by omega)
      have HC : Aside (c = Z.getD i 0) := hc
      clear hc hT'
      have hlt' : (i : Int) < (len : Int) := by omega
      by_cases h34 : c = 34
      · subst h34
        go_wp2
        go_quiet (fail)
        go_wp2
        go_quiet (fail)
        go_wp2
        go_ret2
        have e := hA.out
        rw [Pl.psAt_quote _ (by omega) HC.out.symm] at e
        obtain ⟨rfl, rfl, rfl⟩ : pb = P ∧ true = E ∧ i + 1 = N := by simpa using e
        exact ⟨rfl, by simpa using (hRD0.out.drewN _).set (↑i + 1), below_set (below_drewN hbel _) _, by simpa [size_set] using hsz⟩
      · have b34 : (c == 34) = false := by simpa using h34
        by_cases h92 : c = 92
        · subst h92
          clear h34
          go_wp2
          go_quiet (fail)
          go_wp2
          go_quiet (fail)
          go_wp2
          go_roundg (gk - 2)
          case measure => omega
          case rel => exact ⟨i + 2, false, by omega, rfl, by omega, by rw [show ((i + 2 : Nat) : Int) = (i : Int) + 1 + 1 from by omega]; exact ((hRD0.out.drewN _).set (↑i + 1)).set (↑i + 1 + 1), below_set (below_set (below_drewN hbel _) _) _, by simpa [size_set] using hsz, by rw [← Pl.psAt_esc pb (by omega) HC.out.symm]; exact hA.out⟩
        · have b92 : (c == 92) = false := by simpa using h92
          by_cases hbad : c < 32 ∨ 126 < c
          · rcases hbad with hbad | hbad
            · go_wp2
              go_quiet (fail)
              go_wp2
              go_quiet (fail)
              go_wp2
              go_roundg (gk - 1)
              case measure => omega
              case rel => exact ⟨i + 1, false, by omega, rfl, by omega, by simpa using (hRD0.out.drewN _).set (↑i + 1), below_set (below_drewN hbel _) _, by simpa [size_set] using hsz, by rw [← Pl.psAt_bad pb (by omega) (HC.out ▸ h34) (HC.out ▸ h92) (HC.out ▸ .inl hbad)]; exact hA.out⟩
            · have hb2 : ¬ c < 32 := by omega
              go_wp2
              go_quiet (fail)
              go_wp2
              go_quiet (fail)
              go_wp2
              go_roundg (gk - 1)
              case measure => omega
              case rel => exact ⟨i + 1, false, by omega, rfl, by omega, by simpa using (hRD0.out.drewN _).set (↑i + 1), below_set (below_drewN hbel _) _, by simpa [size_set] using hsz, by rw [← Pl.psAt_bad pb (by omega) (HC.out ▸ h34) (HC.out ▸ h92) (HC.out ▸ .inr hbad)]; exact hA.out⟩
          · have hb1 : ¬ c < 32 := by omega
            have hb2 : ¬ 126 < c := by omega
            clear hbad
            go_wp2
            go_quiet (fail)
            go_wp2
            go_quiet (fail)
            go_wp2
            go_roundg (gk - 1)
            case measure => omega
            case rel => exact ⟨i + 1, pb, by omega, rfl, by omega, by simpa using (hRD0.out.drewN _).set (↑i + 1), below_set (below_drewN hbel _) _, by simpa [size_set] using hsz, by rw [← Pl.psAt_ok pb (by omega) (HC.out ▸ h34) (HC.out ▸ h92) (HC.out ▸ (show 32 ≤ c by omega)) (HC.out ▸ (show c ≤ 126 by omega))]; exact hA.out⟩
    · go_wp2
      go_quiet (fail)
      go_wp2
      go_ret2
      have e := hA.out
      rw [Pl.psAt_end _ (by omega)] at e
      obtain ⟨rfl, rfl, rfl⟩ : pb = P ∧ false = E ∧ Z.length = N := by simpa using e
      exact ⟨rfl, by simpa [hZ] using (hRD0.out.drewN _).set (↑len), below_set (below_drewN hbel _) _, by simpa [size_set] using hsz⟩
end Go.Proofs.Qxb6602725a
