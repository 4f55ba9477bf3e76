/-
  SEAT b6602725a: FnPastStringWhole, walked.
-/
import Derived.Test.Qxb6602725aShims
import Derived.Deep.CutBlock
import Derived.Deep.DeepCutAuto
namespace Go.Proofs.Qxb6602725a
open Go.RowKit

namespace fnPastStringWhole
set_option maxHeartbeats 4000000 in
theorem walk (a0 : Option Addr) (len0 cap0 : Nat) (z0 : List Int) (a1 : Int) (w : World) (w0 : IsRow .u8 w a0 len0 cap0 z0) (w1 : (Lit.int .i64 a1).wf = true) :
    Calls Try.prog 3 #[.slice a0 len0 cap0, .int .i64 a1] w fun e w' => e = .returned (.bool true) ∧ Below w.heap.size w w' := by
  have hm : len0 ≤ maxLen := by
    rcases w0 with ⟨_, rfl, _⟩ | ⟨x, _, h2, h3, _⟩
    · exact Nat.zero_le _
    · omega
  unfold maxLen at hm
  by_cases hbig : len0 ≤ 1048576
  · by_cases hp0 : a1 < 0
    · go_enter Try.func3, Try.ntmps3
      go_wp2
      go_ret
      exact ⟨rfl, Below.refl _ _⟩
    · by_cases hp1 : (len0 : Int) < a1
      · go_enter Try.func3, Try.ntmps3
        go_wp2
        go_ret
        exact ⟨rfl, Below.refl _ _⟩
      · obtain ⟨i0, rfl⟩ := Int.eq_ofNat_of_zero_le (show 0 ≤ a1 by omega)
        have hi0 : i0 ≤ len0 := by omega
        clear hp0 hp1 w1
        have hlen := w0.len
        obtain ⟨Z, hZ⟩ : ∃ Z, Z = z0.take len0 := ⟨_, rfl⟩
        have hcl := clone_any a0 len0 cap0 z0 w w0 hbig
        rw [← hZ] at hlen hcl
        clear hZ w0
        obtain ⟨⟨P, E, N⟩, hres⟩ : ∃ r, Pl.psAt Z (i0 + 1) true = r := ⟨_, rfl⟩
        have HR : Aside (Pl.psAt Z (i0 + 1) true = (P, E, N)) := hres
        have HCL := hcl
        clear hres hcl
        go_enter Try.func3, Try.ntmps3
        go_wp2_with (go_at_call 7; go_in)
        refine HCL.mono ?_
        clear HCL
        rintro e w1 ⟨ta, rfl, hb1, hTX⟩
        go_wp2_with fail
        refine (zz_past len0 len0 ta Z _ i0 P E N hlen (by omega) hi0 hTX HR).mono ?_
        rintro e w2 ⟨rfl, hb2⟩
        have hTX2 := hTX.below hb2
        have hB : Below w.heap.size w w2 := hb1.trans (hb2.mono hb1.size)
        clear hTX hb1 hb2
        obtain ⟨tb, off, ht1, ht2⟩ := hTX2
        have HT2 : Aside (∀ k, k < Z.length → w2.cell? ⟨tb, off + k, none⟩ = some (.int .u8 (Z.getD k 0))) := ht2
        clear ht2
        have d1 : decide ((1048576 : Int) < (len0 : Int)) = false := decide_eq_false (by omega)
        have d2 : decide ((i0 : Int) < 0) = false := decide_eq_false (by omega)
        go_upto_block 0 with fail
        go_cut [8] (fun cl wc => w2 = wc ∧ ∃ m : Nat, Aside (P = Pl.pl Z (i0 + 1) m) ∧ ((cl = .int .i64 (-1) ∧ len0 ≤ i0 + 1 + m ∧ (i0 + 1 + m = len0 ∨ m = 0) ∧ E = false ∧ N = len0) ∨ (cl = .int .i64 ((i0 + 1 + m : Nat) : Int) ∧ i0 + 1 + m < len0 ∧ E = true ∧ N = i0 + 1 + m + 1)))
        case first =>
          go_wp2_with fail
          go_loop [8, 9] (fun cl js => ∃ j : Nat, js = .int .i64 (j : Int) ∧ cl = .int .i64 (-1) ∧ i0 + 1 ≤ j ∧ (j ≤ len0 ∨ j ≤ i0 + 1) ∧ Aside (Pl.Inv Z (i0 + 1) (j - (i0 + 1)))) (fun _ j => len0 - (intOf j).toNat)
          case atStart => exact ⟨i0 + 1, by go_num, rfl, Nat.le_refl _, .inr (Nat.le_refl _), by rw [Nat.sub_self]; exact Pl.inv_start Z (i0 + 1)⟩
          case round =>
            obtain ⟨j, rfl, rfl, hj1, hj2, hI⟩ := hrel
            have hjj : Aside (i0 + 1 + (j - (i0 + 1)) = j) := by show _ = _; omega
            by_cases hlt : j < len0
            · obtain rfl := ht1 (by omega)
              obtain ⟨c, hc⟩ : ∃ c, c = Z.getD j 0 := ⟨_, rfl⟩
              have hcx : w2.cell? ⟨tb, off + j, none⟩ = some (.int .u8 c) := by rw [hc]; exact HT2.out _ (by omega)
              have HC : Aside (c = Z.getD j 0) := hc
              clear hc
              by_cases h34 : c = 34
              · subst h34
                go_wp2
                go_loop [10] (fun rs => ∃ r : Nat, rs = .int .i64 (r : Int) ∧ i0 + 1 + r ≤ j ∧ Aside (∀ k, k < r → Z.getD (j - 1 - k) 0 = 92)) (fun rs => j - (intOf rs).toNat)
                case atStart => exact ⟨0, rfl, by omega, fun k hk => by omega⟩
                case round =>
                  obtain ⟨r, rfl, hr1, hr2⟩ := hrel
                  by_cases hrj : i0 + 1 + r < j
                  · obtain ⟨c, hc⟩ : ∃ c, c = Z.getD (j - 1 - r) 0 := ⟨_, rfl⟩
                    have hcy : w2.cell? ⟨tb, off + (j - 1 - r), none⟩ = some (.int .u8 c) := by rw [hc]; exact HT2.out _ (by omega)
                    have HD : Aside (c = Z.getD (j - 1 - r) 0) := hc
                    clear hc
                    have e1 : ((j : Int) - 1 - (r : Int)).toNat = j - 1 - r := by omega
                    by_cases h92 : c = 92
                    · subst h92
                      go_wp2
                      go_round
                      case rel =>
                        refine ⟨r + 1, by go_num, by omega, fun k hk => ?_⟩
                        by_cases e : k = r
                        · rw [e]; exact HD.out.symm
                        · exact hr2.out k (by omega)
                      case measure => simp [intOf]; omega
                    · have b92 : (c == 92) = false := by simpa using h92
                      have hrun : Pl.runB Z (i0 + 1) (j - (i0 + 1)) = r := Pl.runB_eq Z (i0 + 1) _ r (by omega) (fun k hk => by rw [show i0 + 1 + (j - (i0 + 1)) - 1 - k = j - 1 - k from by omega]; exact hr2.out k hk) (.inr (by rw [show i0 + 1 + (j - (i0 + 1)) - 1 - r = j - 1 - r from by omega]; exact HD.out ▸ h92))
                      have HRUN : Aside (Pl.runB Z (i0 + 1) (j - (i0 + 1)) = r) := hrun
                      clear hrun
                      by_cases hev : r % 2 = 0
                      · have bev : ((r : Int) % 2 == 0) = true := by simp; omega
                        have HEV : Aside (r % 2 = 0) := hev
                        clear hev
                        go_wp2
                        go_meet
                        case rel =>
                          have e := HR.out
                          rw [Pl.inv_close hI.out (by rw [hjj.out]; omega) (by rw [hjj.out]; exact HC.out.symm) (by rw [HRUN.out]; exact HEV.out)] at e
                          simp only [Prod.mk.injEq] at e
                          exact ⟨rfl, _, e.1.symm, .inr ⟨by rw [hjj.out], by omega, e.2.1.symm, e.2.2.symm⟩⟩
                      · have bev : ((r : Int) % 2 == 0) = false := by simp; omega
                        have HEV : Aside (r % 2 = 1) := by show _ = _; omega
                        clear hev
                        go_wp2
                        go_round
                        case rel =>
                          refine ⟨j + 1, by go_num, rfl, by omega, .inl (by omega), ?_⟩
                          rw [show j + 1 - (i0 + 1) = j - (i0 + 1) + 1 from by omega]
                          exact Pl.inv_step hI.out (by rw [hjj.out]; omega) (.inr (by rw [HRUN.out]; exact HEV.out))
                        case measure => simp [intOf]; omega
                  · have hrj' : True := trivial
                    have hrun : Pl.runB Z (i0 + 1) (j - (i0 + 1)) = r := Pl.runB_eq Z (i0 + 1) _ r (by omega) (fun k hk => by rw [show i0 + 1 + (j - (i0 + 1)) - 1 - k = j - 1 - k from by omega]; exact hr2.out k hk) (.inl (by omega))
                    have HRUN : Aside (Pl.runB Z (i0 + 1) (j - (i0 + 1)) = r) := hrun
                    clear hrun
                    by_cases hev : r % 2 = 0
                    · have bev : ((r : Int) % 2 == 0) = true := by simp; omega
                      have HEV : Aside (r % 2 = 0) := hev
                      clear hev
                      go_wp2
                      go_meet
                      case rel =>
                        have e := HR.out
                        rw [Pl.inv_close hI.out (by rw [hjj.out]; omega) (by rw [hjj.out]; exact HC.out.symm) (by rw [HRUN.out]; exact HEV.out)] at e
                        simp only [Prod.mk.injEq] at e
                        exact ⟨rfl, _, e.1.symm, .inr ⟨by rw [hjj.out], by omega, e.2.1.symm, e.2.2.symm⟩⟩
                    · have bev : ((r : Int) % 2 == 0) = false := by simp; omega
                      have HEV : Aside (r % 2 = 1) := by show _ = _; omega
                      clear hev
                      go_wp2
                      go_round
                      case rel =>
                        refine ⟨j + 1, by go_num, rfl, by omega, .inl (by omega), ?_⟩
                        rw [show j + 1 - (i0 + 1) = j - (i0 + 1) + 1 from by omega]
                        exact Pl.inv_step hI.out (by rw [hjj.out]; omega) (.inr (by rw [HRUN.out]; exact HEV.out))
                      case measure => simp [intOf]; omega
              · have b34 : (c != 34) = true := by simpa using h34
                go_wp2
                go_round
                case rel =>
                  refine ⟨j + 1, by go_num, rfl, by omega, .inl (by omega), ?_⟩
                  rw [show j + 1 - (i0 + 1) = j - (i0 + 1) + 1 from by omega]
                  exact Pl.inv_step hI.out (by rw [hjj.out]; omega) (.inl (by rw [hjj.out]; exact HC.out ▸ h34))
                case measure => simp [intOf]; omega
            · go_wp2
              go_meet
              case rel =>
                have e := HR.out
                have e2 : Pl.psAt Z (i0 + 1) true = (Pl.pl Z (i0 + 1) (j - (i0 + 1)), false, len0) := by
                  by_cases hm2 : j = len0
                  · rw [Pl.inv_none hI.out (by rw [hjj.out]; omega), hlen]
                  · obtain rfl : j = i0 + 1 := by omega
                    rw [Pl.psAt_end _ (by omega), hlen, Nat.sub_self]; rfl
                rw [e2] at e
                simp only [Prod.mk.injEq] at e
                exact ⟨rfl, _, e.1.symm, .inl ⟨rfl, by omega, by omega, e.2.1.symm, e.2.2.symm⟩⟩
        case rest =>
          clear HR
          obtain ⟨rfl, m, hP, hcases⟩ := hcut
          rcases hcases with ⟨rfl, h1, h2, rfl, rfl⟩ | ⟨rfl, h1, rfl, rfl⟩
          · go_upto_block 4 with fail
            go_cut [12] (fun wp wd => w2 = wd ∧ wp = .bool P)
            case first =>
              go_wp2_with fail
              go_loop [12, 13] (fun wp js => ∃ t : Nat, t ≤ m ∧ js = .int .i64 ((i0 + 1 + t : Nat) : Int) ∧ wp = .bool true ∧ Aside (Pl.pl Z (i0 + 1) t = true)) (fun _ js => i0 + 1 + m - (intOf js).toNat)
              case atStart => exact ⟨0, Nat.zero_le _, by go_num, rfl, rfl⟩
              case round =>
                obtain ⟨t, ht, rfl, rfl, hpl⟩ := hrel
                by_cases hlt : t < m
                · obtain rfl := ht1 (by omega)
                  obtain ⟨c, hc⟩ : ∃ c, c = Z.getD (i0 + 1 + t) 0 := ⟨_, rfl⟩
                  have hcx : w2.cell? ⟨tb, off + (i0 + 1 + t), none⟩ = some (.int .u8 c) := by rw [hc]; exact HT2.out _ (by omega)
                  have HC : Aside (c = Z.getD (i0 + 1 + t) 0) := hc
                  clear hc
                  have e1 : ((i0 : Int) + 1 + (t : Int)).toNat = i0 + 1 + t := by omega
                  by_cases hbad : c = 92 ∨ c < 32 ∨ 126 < c
                  · have HB : Aside (Pl.pl Z (i0 + 1) m = false) := Pl.pl_stop Z (i0 + 1) m t hlt (by rw [← HC.out]; exact Pl.okc_no hbad)
                    rcases hbad with rfl | hbad | hbad
                    · go_wp2
                      go_meet
                      case rel => exact ⟨rfl, by rw [hP.out, HB.out]⟩
                    · have b92 : (c == 92) = false := by simp; omega
                      go_wp2
                      go_meet
                      case rel => exact ⟨rfl, by rw [hP.out, HB.out]⟩
                    · have b92 : (c == 92) = false := by simp; omega
                      have b32 : ¬ c < 32 := by omega
                      go_wp2
                      go_meet
                      case rel => exact ⟨rfl, by rw [hP.out, HB.out]⟩
                  · have b92 : (c == 92) = false := by simp; omega
                    have b32 : ¬ c < 32 := by omega
                    have b126 : ¬ 126 < c := by omega
                    clear hbad
                    go_wp2
                    go_round
                    case rel =>
                      refine ⟨t + 1, by omega, by go_num, rfl, ?_⟩
                      show (Pl.pl Z (i0 + 1) t && Pl.okc (Z.getD (i0 + 1 + t) 0)) = true
                      rw [hpl.out, ← HC.out, Pl.okc_yes (by intro h; rw [h] at b92; simp at b92) (by omega) (by omega)]; rfl
                    case measure => simp [intOf]; omega
                · go_wp2
                  go_meet
                  case rel =>
                    obtain rfl : t = m := by omega
                    exact ⟨rfl, by rw [hP.out, hpl.out]⟩
            case rest =>
              obtain ⟨rfl, rfl⟩ := hcut
              go_wp2
              go_ret
              exact ⟨rfl, hB⟩
          · go_upto_block 4 with fail
            go_cut [12] (fun wp wd => w2 = wd ∧ wp = .bool P)
            case first =>
              go_wp2_with fail
              go_loop [12, 13] (fun wp js => ∃ t : Nat, t ≤ m ∧ js = .int .i64 ((i0 + 1 + t : Nat) : Int) ∧ wp = .bool true ∧ Aside (Pl.pl Z (i0 + 1) t = true)) (fun _ js => i0 + 1 + m - (intOf js).toNat)
              case atStart => exact ⟨0, Nat.zero_le _, by go_num, rfl, rfl⟩
              case round =>
                obtain ⟨t, ht, rfl, rfl, hpl⟩ := hrel
                by_cases hlt : t < m
                · obtain rfl := ht1 (by omega)
                  obtain ⟨c, hc⟩ : ∃ c, c = Z.getD (i0 + 1 + t) 0 := ⟨_, rfl⟩
                  have hcx : w2.cell? ⟨tb, off + (i0 + 1 + t), none⟩ = some (.int .u8 c) := by rw [hc]; exact HT2.out _ (by omega)
                  have HC : Aside (c = Z.getD (i0 + 1 + t) 0) := hc
                  clear hc
                  have e1 : ((i0 : Int) + 1 + (t : Int)).toNat = i0 + 1 + t := by omega
                  by_cases hbad : c = 92 ∨ c < 32 ∨ 126 < c
                  · have HB : Aside (Pl.pl Z (i0 + 1) m = false) := Pl.pl_stop Z (i0 + 1) m t hlt (by rw [← HC.out]; exact Pl.okc_no hbad)
                    rcases hbad with rfl | hbad | hbad
                    · go_wp2
                      go_meet
                      case rel => exact ⟨rfl, by rw [hP.out, HB.out]⟩
                    · have b92 : (c == 92) = false := by simp; omega
                      go_wp2
                      go_meet
                      case rel => exact ⟨rfl, by rw [hP.out, HB.out]⟩
                    · have b92 : (c == 92) = false := by simp; omega
                      have b32 : ¬ c < 32 := by omega
                      go_wp2
                      go_meet
                      case rel => exact ⟨rfl, by rw [hP.out, HB.out]⟩
                  · have b92 : (c == 92) = false := by simp; omega
                    have b32 : ¬ c < 32 := by omega
                    have b126 : ¬ 126 < c := by omega
                    clear hbad
                    go_wp2
                    go_round
                    case rel =>
                      refine ⟨t + 1, by omega, by go_num, rfl, ?_⟩
                      show (Pl.pl Z (i0 + 1) t && Pl.okc (Z.getD (i0 + 1 + t) 0)) = true
                      rw [hpl.out, ← HC.out, Pl.okc_yes (by intro h; rw [h] at b92; simp at b92) (by omega) (by omega)]; rfl
                    case measure => simp [intOf]; omega
                · go_wp2
                  go_meet
                  case rel =>
                    obtain rfl : t = m := by omega
                    exact ⟨rfl, by rw [hP.out, hpl.out]⟩
            case rest =>
              obtain ⟨rfl, rfl⟩ := hcut
              go_wp2
              go_ret
              exact ⟨rfl, hB⟩
  · have hbig' : (1048576 : Int) < (len0 : Int) := by omega
    go_enter Try.func3, Try.ntmps3
    go_wp2
    go_ret
    exact ⟨rfl, Below.refl _ _⟩
end fnPastStringWhole
end Go.Proofs.Qxb6602725a
