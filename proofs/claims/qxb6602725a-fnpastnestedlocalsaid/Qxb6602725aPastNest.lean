/-
  SEAT b6602725a: the contracts of (*jsonReader).pastNested and ZZPastNested.
-/
import Derived.Test.Qxb6602725aShims
import Derived.Test.Qxb6602725aPlainNest
namespace Go.Proofs.Qxb6602725a
open Go.RowKit

set_option maxHeartbeats 2000000 in
theorem past_nest (R tb off len tc : Nat) (ta : Option Addr) (Z : List Int) (w : World) (i0 : Nat) (N : Nat) (hZ : Z.length = len) (hl : len ≤ 2097152) (hT : TB w R ta Z tb off) (hR : RD w R (.slice ta len tc) i0)
    (hres : Aside (Pl.pnAt Z i0 0 = N)) :
    Calls Try.prog 15 #[.pointer (some ⟨R, 0, none⟩)] w fun e w' => e = .returned (.tuple #[]) ∧ RD w' R (.slice ta len tc) N ∧ Below R w w' ∧ w'.heap.size = w.heap.size := by
  go_enter Try.func15, Try.ntmps15
  go_wp2
  go_loopg [2] (len + 1 - i0) (fun k ds wr => ∃ (i : Nat) (d : Int), k = len + 1 - i ∧ ds = .int .i64 d ∧ -(i : Int) ≤ d ∧ d ≤ (i : Int) ∧ RD wr R (.slice ta len tc) i ∧ Below R w wr ∧ wr.heap.size = w.heap.size ∧ Aside (Pl.pnAt Z i d = N))
  case atStart => exact ⟨i0, 0, rfl, rfl, by omega, by omega, hR, Below.refl _ _, rfl, hres⟩
  case round =>
    obtain ⟨i, d, rfl, rfl, hd1, hd2, hRD, hbel, hsz, hA⟩ := hrel
    clear hR hres
    have hRD0 : Aside (RD wr R (.slice ta len tc) i) := hRD
    obtain ⟨c0, c1, cf⟩ := hRD
    have hT' : Aside (TB wr R ta Z tb off) := hT.below hbel
    clear hT
    by_cases hlt : i < len
    · obtain rfl : ta = some ⟨tb, off, none⟩ := hT'.out.2.1 (by omega)
      obtain ⟨c, hc⟩ : ∃ c, c = Z.getD i 0 := ⟨_, rfl⟩
      have hcx : wr.cell? ⟨tb, off + i, none⟩ = some (.int .u8 c) := by rw [hc]; exact hT'.out.2.2 i (by omega)
      have HC : Aside (c = Z.getD i 0) := hc
      clear hc
      have hlt' : (i : Int) < (len : Int) := by omega
      by_cases h34 : c = 34
      · subst h34
        obtain ⟨⟨P, E, M⟩, hps⟩ : ∃ r, Pl.psAt Z (i + 1) true = r := ⟨_, rfl⟩
        have HP : Aside (Pl.psAt Z (i + 1) true = (P, E, M)) := hps
        have hnx : Aside (Pl.nx Z i = M) := by show Pl.nx Z i = M; unfold Pl.nx; rw [hps]
        clear hps
        have hM := Pl.nx_bounds Z i (by omega)
        rw [hnx.out] at hM
        go_wp2_with fail
        go_quiet (fail)
        go_wp2_with fail
        go_quiet (fail)
        go_wp2_with fail
        refine (past_str R tb off len tc _ Z _ i P E M hZ hl (by omega) (hT'.out.below (below_drewN (Below.refl _ _) _)) (hRD0.out.drewN _) HP).mono ?_
        rintro e w1 ⟨rfl, hRD1, hb1, hs1⟩
        go_wp2
        go_roundg (len + 1 - M)
        case measure => omega
        case rel => exact ⟨M, d, rfl, rfl, by omega, by omega, hRD1, (below_drewN hbel _).trans hb1, by rw [hs1]; exact hsz, by rw [← hnx.out, ← Pl.pnAt_quote d (by omega) HC.out.symm]; exact hA.out⟩
      · have b34 : (c == 34) = false := by simpa using h34
        clear hT'
        by_cases h91 : c = 91
        · subst h91
          by_cases hz : (d + 1) = 0
          · have bz : ((d + 1) == 0) = true := by simpa using hz
            have HZ : Aside (Pl.dl 91 d = 0) := by show Pl.dl 91 d = 0; rw [Pl.dl_up d (.inl rfl)]; exact hz
            clear hz
            go_wp2
            go_quiet (fail)
            go_wp2
            go_quiet (fail)
            go_wp2
            refine bodyPost_ret (results_none rfl _ _ _) rfl ?_
            have e := hA.out
            rw [Pl.pnAt_stop d (by omega) (HC.out ▸ h34) (HC.out ▸ HZ.out)] at e
            obtain rfl := e
            exact ⟨rfl, by simpa using (hRD0.out.drewN _).set (↑i + 1), below_set (below_drewN hbel _) _, by simpa [size_set] using hsz⟩
          · have bz : ((d + 1) == 0) = false := by simpa using hz
            have HZ : Aside (Pl.dl 91 d ≠ 0) := by show Pl.dl 91 d ≠ 0; rw [Pl.dl_up d (.inl rfl)]; exact hz
            clear hz
            go_wp2
            go_quiet (fail)
            go_wp2
            go_quiet (fail)
            go_wp2
            go_roundg (len + 1 - (i + 1))
            case measure => omega
            case rel =>
              have e := hA.out
              rw [Pl.pnAt_go d (by omega) (HC.out ▸ h34) (HC.out ▸ HZ.out), ← HC.out, Pl.dl_up d (.inl rfl)] at e
              exact ⟨i + 1, (d + 1), rfl, rfl, by omega, by omega, by simpa using (hRD0.out.drewN _).set (↑i + 1), below_set (below_drewN hbel _) _, by simpa [size_set] using hsz, e⟩
        by_cases h123 : c = 123
        · subst h123
          by_cases hz : (d + 1) = 0
          · have bz : ((d + 1) == 0) = true := by simpa using hz
            have HZ : Aside (Pl.dl 123 d = 0) := by show Pl.dl 123 d = 0; rw [Pl.dl_up d (.inr rfl)]; exact hz
            clear hz
            go_wp2
            go_quiet (fail)
            go_wp2
            go_quiet (fail)
            go_wp2
            refine bodyPost_ret (results_none rfl _ _ _) rfl ?_
            have e := hA.out
            rw [Pl.pnAt_stop d (by omega) (HC.out ▸ h34) (HC.out ▸ HZ.out)] at e
            obtain rfl := e
            exact ⟨rfl, by simpa using (hRD0.out.drewN _).set (↑i + 1), below_set (below_drewN hbel _) _, by simpa [size_set] using hsz⟩
          · have bz : ((d + 1) == 0) = false := by simpa using hz
            have HZ : Aside (Pl.dl 123 d ≠ 0) := by show Pl.dl 123 d ≠ 0; rw [Pl.dl_up d (.inr rfl)]; exact hz
            clear hz
            go_wp2
            go_quiet (fail)
            go_wp2
            go_quiet (fail)
            go_wp2
            go_roundg (len + 1 - (i + 1))
            case measure => omega
            case rel =>
              have e := hA.out
              rw [Pl.pnAt_go d (by omega) (HC.out ▸ h34) (HC.out ▸ HZ.out), ← HC.out, Pl.dl_up d (.inr rfl)] at e
              exact ⟨i + 1, (d + 1), rfl, rfl, by omega, by omega, by simpa using (hRD0.out.drewN _).set (↑i + 1), below_set (below_drewN hbel _) _, by simpa [size_set] using hsz, e⟩
        have b91 : (c == 91) = false := by simpa using h91
        have b123 : (c == 123) = false := by simpa using h123
        by_cases h93 : c = 93
        · subst h93
          by_cases hz : (d - 1) = 0
          · have bz : ((d - 1) == 0) = true := by simpa using hz
            have HZ : Aside (Pl.dl 93 d = 0) := by show Pl.dl 93 d = 0; rw [Pl.dl_down d (.inl rfl)]; exact hz
            clear hz
            go_wp2
            go_quiet (fail)
            go_wp2
            go_quiet (fail)
            go_wp2
            refine bodyPost_ret (results_none rfl _ _ _) rfl ?_
            have e := hA.out
            rw [Pl.pnAt_stop d (by omega) (HC.out ▸ h34) (HC.out ▸ HZ.out)] at e
            obtain rfl := e
            exact ⟨rfl, by simpa using (hRD0.out.drewN _).set (↑i + 1), below_set (below_drewN hbel _) _, by simpa [size_set] using hsz⟩
          · have bz : ((d - 1) == 0) = false := by simpa using hz
            have HZ : Aside (Pl.dl 93 d ≠ 0) := by show Pl.dl 93 d ≠ 0; rw [Pl.dl_down d (.inl rfl)]; exact hz
            clear hz
            go_wp2
            go_quiet (fail)
            go_wp2
            go_quiet (fail)
            go_wp2
            go_roundg (len + 1 - (i + 1))
            case measure => omega
            case rel =>
              have e := hA.out
              rw [Pl.pnAt_go d (by omega) (HC.out ▸ h34) (HC.out ▸ HZ.out), ← HC.out, Pl.dl_down d (.inl rfl)] at e
              exact ⟨i + 1, (d - 1), rfl, rfl, by omega, by omega, by simpa using (hRD0.out.drewN _).set (↑i + 1), below_set (below_drewN hbel _) _, by simpa [size_set] using hsz, e⟩
        by_cases h125 : c = 125
        · subst h125
          by_cases hz : (d - 1) = 0
          · have bz : ((d - 1) == 0) = true := by simpa using hz
            have HZ : Aside (Pl.dl 125 d = 0) := by show Pl.dl 125 d = 0; rw [Pl.dl_down d (.inr rfl)]; exact hz
            clear hz
            go_wp2
            go_quiet (fail)
            go_wp2
            go_quiet (fail)
            go_wp2
            refine bodyPost_ret (results_none rfl _ _ _) rfl ?_
            have e := hA.out
            rw [Pl.pnAt_stop d (by omega) (HC.out ▸ h34) (HC.out ▸ HZ.out)] at e
            obtain rfl := e
            exact ⟨rfl, by simpa using (hRD0.out.drewN _).set (↑i + 1), below_set (below_drewN hbel _) _, by simpa [size_set] using hsz⟩
          · have bz : ((d - 1) == 0) = false := by simpa using hz
            have HZ : Aside (Pl.dl 125 d ≠ 0) := by show Pl.dl 125 d ≠ 0; rw [Pl.dl_down d (.inr rfl)]; exact hz
            clear hz
            go_wp2
            go_quiet (fail)
            go_wp2
            go_quiet (fail)
            go_wp2
            go_roundg (len + 1 - (i + 1))
            case measure => omega
            case rel =>
              have e := hA.out
              rw [Pl.pnAt_go d (by omega) (HC.out ▸ h34) (HC.out ▸ HZ.out), ← HC.out, Pl.dl_down d (.inr rfl)] at e
              exact ⟨i + 1, (d - 1), rfl, rfl, by omega, by omega, by simpa using (hRD0.out.drewN _).set (↑i + 1), below_set (below_drewN hbel _) _, by simpa [size_set] using hsz, e⟩
        have b93 : (c == 93) = false := by simpa using h93
        have b125 : (c == 125) = false := by simpa using h125
        by_cases hz : d = 0
        · have bz : (d == 0) = true := by simpa using hz
          have HZ : Aside (Pl.dl c d = 0) := by show Pl.dl c d = 0; rw [Pl.dl_same d h91 h123 h93 h125]; exact hz
          clear hz
          go_wp2
          go_quiet (fail)
          go_wp2
          go_quiet (fail)
          go_wp2
          refine bodyPost_ret (results_none rfl _ _ _) rfl ?_
          have e := hA.out
          rw [Pl.pnAt_stop d (by omega) (HC.out ▸ h34) (HC.out ▸ HZ.out)] at e
          obtain rfl := e
          exact ⟨rfl, by simpa using (hRD0.out.drewN _).set (↑i + 1), below_set (below_drewN hbel _) _, by simpa [size_set] using hsz⟩
        · have bz : (d == 0) = false := by simpa using hz
          have HZ : Aside (Pl.dl c d ≠ 0) := by show Pl.dl c d ≠ 0; rw [Pl.dl_same d h91 h123 h93 h125]; exact hz
          clear hz
          go_wp2
          go_quiet (fail)
          go_wp2
          go_quiet (fail)
          go_wp2
          go_roundg (len + 1 - (i + 1))
          case measure => omega
          case rel =>
            have e := hA.out
            rw [Pl.pnAt_go d (by omega) (HC.out ▸ h34) (HC.out ▸ HZ.out), ← HC.out, Pl.dl_same d h91 h123 h93 h125] at e
            exact ⟨i + 1, d, rfl, rfl, by omega, by omega, by simpa using (hRD0.out.drewN _).set (↑i + 1), below_set (below_drewN hbel _) _, by simpa [size_set] using hsz, e⟩
    · go_wp2
      go_quiet (fail)
      go_wp2
      go_end0
      have e := hA.out
      rw [Pl.pnAt_end d (by omega)] at e
      obtain rfl := e
      exact ⟨rfl, hRD0.out.drewN _, below_drewN hbel _, hsz⟩

set_option maxHeartbeats 400000 in
theorem zz_nest (len tc : Nat) (ta : Option Addr) (Z : List Int) (w : World) (i0 : Nat) (N : Nat) (hZ : Z.length = len) (hl : len ≤ 2097152) (hT : TX w ta Z)
    (hres : Aside (Pl.pnAt Z i0 0 = N)) :
    Calls Try.prog 12 #[.slice ta len tc, .int .i64 i0] w fun e w' => e = .returned (.int .i64 N) ∧ Below w.heap.size w w' := by
  go_enter Try.func12, Try.ntmps12
  go_wp2_with fail
  have hA1 : Below w.heap.size w (w.alloc (Obj.cells #[Value.slice ta len tc, Value.int IntKind.i64 ↑i0] 33)) := (Below.refl _ _).alloc (Nat.le_refl _) _
  obtain ⟨tb, off, hTB⟩ := hT.tb rfl hA1
  refine (past_nest w.heap.size tb off len tc ta Z _ i0 N hZ hl hTB ⟨by simp, by simp, by simp⟩ hres).mono ?_
  rintro e w1 ⟨rfl, ⟨c0, c1, cf⟩, hb1, hs1⟩
  go_wp2
  go_ret
  exact ⟨rfl, hA1.trans hb1⟩
end Go.Proofs.Qxb6602725a
