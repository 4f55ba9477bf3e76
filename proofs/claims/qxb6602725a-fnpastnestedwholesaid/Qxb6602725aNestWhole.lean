/-
  SEAT b6602725a: FnPastNestedWhole, walked.
-/
import Derived.Test.Qxb6602725aPastNest
import Derived.Deep.CutBlock
import Derived.Deep.DeepCutAuto
namespace Go.Proofs.Qxb6602725a
open Go.RowKit

theorem Try.info4 : (Try.prog.info? 4).map (fun i => (i.zero, i.size, i.bytes)) = some (some (.bool false), 1, 1) := by kernel_rfl

namespace fnPastNestedWhole
set_option maxHeartbeats 4000000 in
theorem walk (a0 : Option Addr) (len0 cap0 : Nat) (z0 : List Int) (a1 : Int) (w : World) (w0 : IsRow .u8 w a0 len0 cap0 z0) (w1 : (Lit.int .i64 a1).wf = true) :
    Calls Try.prog 5 #[.slice a0 len0 cap0, .int .i64 a1] w fun e w' => e = .returned (.bool true) ∧ Below w.heap.size w w' := by
  have hm : len0 ≤ maxLen := by
    rcases w0 with ⟨_, rfl, _⟩ | ⟨x, _, h2, h3, _⟩
    · exact Nat.zero_le _
    · omega
  unfold maxLen at hm
  by_cases hbig : len0 ≤ 1048576
  · by_cases hp0 : a1 < 0
    · go_enter Try.func5, Try.ntmps5
      go_wp2
      go_ret
      exact ⟨rfl, Below.refl _ _⟩
    · obtain ⟨i0, rfl⟩ := Int.eq_ofNat_of_zero_le (show 0 ≤ a1 by omega)
      clear hp0 w1
      have hlen := w0.len
      obtain ⟨Z, hZ⟩ : ∃ Z, Z = z0.take len0 := ⟨_, rfl⟩
      have hcl := clone_any a0 len0 cap0 z0 w w0 hbig
      rw [← hZ] at hlen hcl
      clear hZ w0
      obtain ⟨N, hres⟩ : ∃ r, Pl.pnAt Z i0 0 = r := ⟨_, rfl⟩
      have HR : Aside (Pl.pnAt Z i0 0 = N) := hres
      have HCL := hcl
      clear hres hcl
      have d1 : decide ((1048576 : Int) < (len0 : Int)) = false := decide_eq_false (by omega)
      have d2 : decide ((i0 : Int) < 0) = false := decide_eq_false (by omega)
      go_enter Try.func5, Try.ntmps5
      go_wp2_with (go_at_call 11; go_in)
      refine HCL.mono ?_
      clear HCL
      rintro e w1 ⟨ta, rfl, hb1, hTX⟩
      go_wp2_with fail
      refine (zz_nest len0 len0 ta Z _ i0 N hlen (by omega) hTX HR).mono ?_
      rintro e w2 ⟨rfl, hb2⟩
      have hTX2 : Aside (TX w2 ta Z) := hTX.below hb2
      have hB : Below w.heap.size w w2 := hb1.trans (hb2.mono hb1.size)
      clear hTX hb1 hb2
      by_cases hp : len0 ≤ i0
      · have e := HR.out
        rw [Pl.pnAt_end 0 (by omega)] at e
        clear HR
        obtain rfl := e
        go_wp2
        go_ret
        exact ⟨rfl, hB⟩
      · obtain ⟨n, hn⟩ : ∃ n, i0 + n = len0 := ⟨len0 - i0, by omega⟩
        have en : (len0 : Int) - (i0 : Int) = (n : Int) := by omega
        have d3 : decide ((len0 : Int) ≤ (i0 : Int)) = false := decide_eq_false (by omega)
        obtain ⟨i4, hi, hz0, hz1, hz2⟩ := info_parts Try.info4
        go_wp2_with (at_make; refine wpList_make_full _ rfl _ _ 29 rfl w2.heap.size 4 i4 (.bool false) 1 Try.underlying29 hi hz0 hz1 _ _ _ _ n rfl rfl (by omega) (by omega) (by rw [hz2]; omega) (by unfold maxLen; omega) (Nat.le_refl _) ?_)
        intro w3 hown hgrow
        have hb3 : Below w2.heap.size w2 w3 := (Below.refl _ _).grown hgrow (Nat.le_refl _) (fun k h => by cases h)
        clear hgrow hi hz0 hz1 hz2
        have hx0 : ∀ j, j < n → (madeCells #[Value.bool false] n).toList[j]? = some (.bool false) := by
          intro j hj
          rw [toList_madeCells_one, List.getElem?_replicate, if_pos hj]
        have HX0 : Aside (∀ j, j < n → (madeCells #[Value.bool false] n).toList[j]? = some (.bool false)) := hx0
        clear hx0
        obtain ⟨xs0, hxs0⟩ : ∃ xs, xs = (madeCells #[Value.bool false] n).toList := ⟨_, rfl⟩
        have hown' : w3.ownsRow w2.heap.size 4 1 (.slice (some ⟨w2.heap.size, 0, none⟩) n n) n xs0 := by rw [hxs0]; exact hown
        rw [← hxs0] at HX0
        clear hxs0 hown
        go_upto_block 0 with fail
        go_cut [8, 9] (fun _ _ wr => Below w2.heap.size w2 wr ∧ ∃ xs : List Value, wr.ownsRow w2.heap.size 4 1 (.slice (some ⟨w2.heap.size, 0, none⟩) n n) n xs ∧ ∀ j, j < n → xs[j]? = some (.bool (Pl.ins Z i0 j)))
        case first =>
          go_wp2_with fail
          go_loopw [8, 9] (fun ss is wr => ∃ k s : Nat, k ≤ n ∧ is = .int .i64 (k : Int) ∧ ss = .int .i64 (s : Int) ∧ Aside (s = Pl.st Z i0 k) ∧ s ≤ 2 ∧ Below w2.heap.size w2 wr ∧ ∃ xs : List Value, wr.ownsRow w2.heap.size 4 1 (.slice (some ⟨w2.heap.size, 0, none⟩) n n) n xs ∧ (∀ j, j < k → xs[j]? = some (.bool (Pl.ins Z i0 j))) ∧ (∀ j, k ≤ j → j < n → xs[j]? = some (.bool false)))
            (fun _ is _ => n - (intOf is).toNat)
          case atStart => exact ⟨0, 0, Nat.zero_le _, rfl, rfl, rfl, by omega, hb3, xs0, hown', fun j h => by omega, fun j _ h => HX0.out j h⟩
          case round =>
            obtain ⟨k, s, hk, rfl, rfl, HS, hs2, hbel, xs, hox, hx1', hx2'⟩ := hrel
            have hx1 : Aside (∀ j, j < k → xs[j]? = some (.bool (Pl.ins Z i0 j))) := hx1'
            have hx2 : Aside (∀ j, k ≤ j → j < n → xs[j]? = some (.bool false)) := hx2'
            clear hx1' hx2' hown' hb3 HX0
            have hxl : xs.length = n := by have := hox.1; omega
            by_cases hlt : k < n
            · obtain ⟨tb, off, ht1, ht2⟩ := (hTX2.out.below hbel)
              obtain rfl := ht1 (by omega)
              obtain ⟨c, hc⟩ : ∃ c, c = Z.getD (i0 + k) 0 := ⟨_, rfl⟩
              have hcx : wr.cell? ⟨tb, off + (i0 + k), none⟩ = some (.int .u8 c) := by rw [hc]; exact ht2 _ (by omega)
              have HC : Aside (c = Z.getD (i0 + k) 0) := hc
              clear hc ht2
              have e1 : ((i0 : Int) + (k : Int)).toNat = i0 + k := by omega
              have hdst : wr.cell? ⟨w2.heap.size, k, none⟩ = some (.bool false) := by rw [hox.cellAt k (by omega)]; exact hx2.out k (Nat.le_refl _) hlt
              have hfr : wr.frozen? ⟨w2.heap.size, k, none⟩ = false := hox.frozenAt k
              rcases (by omega : s = 0 ∨ s = 1 ∨ s = 2) with rfl | rfl | rfl
              · by_cases h34 : c = 34
                · subst h34
                  go_wp2
                  go_roundw
                  case rel =>
                    have hin : Pl.ins Z i0 k = true := by show (!(decide (Pl.st Z i0 k = 0) && !(decide (Z.getD (i0 + k) 0 = 34)))) = true; rw [← HC.out]; simp
                    refine ⟨k + 1, 1, by omega, by go_num, rfl, by show 1 = Pl.step (Pl.st Z i0 k) (Z.getD (i0 + k) 0); rw [← HC.out, ← HS.out]; exact rfl, by omega, hbel.setCell (Nat.le_refl _) _, _, (hox.stored k _).1, fun j hj => ?_, fun j h1 h2 => ?_⟩
                    · rw [List.getElem?_set]
                      by_cases e : k = j
                      · subst e; rw [if_pos rfl, if_pos (by omega), hin]
                      · rw [if_neg e]; exact hx1.out j (by omega)
                    · rw [List.getElem?_set, if_neg (by omega)]; exact hx2.out j (by omega) h2
                  case measure => simp [intOf]; omega
                · have b34 : (c == 34) = false := by simpa using h34
                  go_wp2
                  go_roundw
                  case rel =>
                    have hin : Pl.ins Z i0 k = false := by
                      show (!(decide (Pl.st Z i0 k = 0) && !(decide (Z.getD (i0 + k) 0 = 34)))) = false
                      rw [← HC.out, ← HS.out, decide_eq_false h34]; rfl
                    refine ⟨k + 1, 0, by omega, by go_num, rfl, by show 0 = Pl.step (Pl.st Z i0 k) (Z.getD (i0 + k) 0); rw [← HC.out, ← HS.out]; exact (Pl.step_0 h34).symm, by omega, hbel, xs, hox, fun j hj => ?_, fun j h1 h2 => hx2.out j (by omega) h2⟩
                    by_cases e : j = k
                    · rw [e, hin]; exact hx2.out k (Nat.le_refl _) hlt
                    · exact hx1.out j (by omega)
                  case measure => simp [intOf]; omega
              · by_cases h92 : c = 92
                · subst h92
                  go_wp2
                  go_roundw
                  case rel =>
                    have hin : Pl.ins Z i0 k = true := by show (!(decide (Pl.st Z i0 k = 0) && !(decide (Z.getD (i0 + k) 0 = 34)))) = true; rw [← HS.out]; simp
                    refine ⟨k + 1, 2, by omega, by go_num, rfl, by show 2 = Pl.step (Pl.st Z i0 k) (Z.getD (i0 + k) 0); rw [← HC.out, ← HS.out]; exact rfl, by omega, hbel.setCell (Nat.le_refl _) _, _, (hox.stored k _).1, fun j hj => ?_, fun j h1 h2 => ?_⟩
                    · rw [List.getElem?_set]
                      by_cases e : k = j
                      · subst e; rw [if_pos rfl, if_pos (by omega), hin]
                      · rw [if_neg e]; exact hx1.out j (by omega)
                    · rw [List.getElem?_set, if_neg (by omega)]; exact hx2.out j (by omega) h2
                  case measure => simp [intOf]; omega
                · have b92 : (c == 92) = false := by simpa using h92
                  by_cases h34 : c = 34
                  · subst h34
                    go_wp2
                    go_roundw
                    case rel =>
                      have hin : Pl.ins Z i0 k = true := by show (!(decide (Pl.st Z i0 k = 0) && !(decide (Z.getD (i0 + k) 0 = 34)))) = true; rw [← HS.out]; simp
                      refine ⟨k + 1, 0, by omega, by go_num, rfl, by show 0 = Pl.step (Pl.st Z i0 k) (Z.getD (i0 + k) 0); rw [← HC.out, ← HS.out]; exact rfl, by omega, hbel.setCell (Nat.le_refl _) _, _, (hox.stored k _).1, fun j hj => ?_, fun j h1 h2 => ?_⟩
                      · rw [List.getElem?_set]
                        by_cases e : k = j
                        · subst e; rw [if_pos rfl, if_pos (by omega), hin]
                        · rw [if_neg e]; exact hx1.out j (by omega)
                      · rw [List.getElem?_set, if_neg (by omega)]; exact hx2.out j (by omega) h2
                    case measure => simp [intOf]; omega
                  · have b34 : (c == 34) = false := by simpa using h34
                    go_wp2
                    go_roundw
                    case rel =>
                      have hin : Pl.ins Z i0 k = true := by show (!(decide (Pl.st Z i0 k = 0) && !(decide (Z.getD (i0 + k) 0 = 34)))) = true; rw [← HS.out]; simp
                      refine ⟨k + 1, 1, by omega, by go_num, rfl, by show 1 = Pl.step (Pl.st Z i0 k) (Z.getD (i0 + k) 0); rw [← HC.out, ← HS.out]; exact (Pl.step_1 h92 h34).symm, by omega, hbel.setCell (Nat.le_refl _) _, _, (hox.stored k _).1, fun j hj => ?_, fun j h1 h2 => ?_⟩
                      · rw [List.getElem?_set]
                        by_cases e : k = j
                        · subst e; rw [if_pos rfl, if_pos (by omega), hin]
                        · rw [if_neg e]; exact hx1.out j (by omega)
                      · rw [List.getElem?_set, if_neg (by omega)]; exact hx2.out j (by omega) h2
                    case measure => simp [intOf]; omega
              · go_wp2
                go_roundw
                case rel =>
                  have hin : Pl.ins Z i0 k = true := by show (!(decide (Pl.st Z i0 k = 0) && !(decide (Z.getD (i0 + k) 0 = 34)))) = true; rw [← HS.out]; simp
                  refine ⟨k + 1, 1, by omega, by go_num, rfl, by show 1 = Pl.step (Pl.st Z i0 k) (Z.getD (i0 + k) 0); rw [← HC.out, ← HS.out]; exact rfl, by omega, hbel.setCell (Nat.le_refl _) _, _, (hox.stored k _).1, fun j hj => ?_, fun j h1 h2 => ?_⟩
                  · rw [List.getElem?_set]
                    by_cases e : k = j
                    · subst e; rw [if_pos rfl, if_pos (by omega), hin]
                    · rw [if_neg e]; exact hx1.out j (by omega)
                  · rw [List.getElem?_set, if_neg (by omega)]; exact hx2.out j (by omega) h2
                case measure => simp [intOf]; omega
            · obtain rfl : k = n := by omega
              go_wp2
              go_meet
              case rel => exact ⟨hbel, xs, hox, hx1.out⟩
        case rest =>
          obtain ⟨hbel, xs, hox, hxs'⟩ := hcut
          have hxs : Aside (∀ j, j < n → xs[j]? = some (.bool (Pl.ins Z i0 j))) := hxs'
          have hBc : Below w.heap.size w wc := hB.trans (hbel.mono hB.size)
          clear hxs' hown' hb3 HX0
          go_wp2_with fail
          go_loop [11, 12, 13] (fun ws ds is => ∃ (k : Nat) (d : Int), k ≤ n ∧ is = .int .i64 (k : Int) ∧ ds = .int .i64 d ∧ ws = .int .i64 (len0 : Int) ∧ -(k : Int) ≤ d ∧ d ≤ (k : Int) ∧ Aside (Pl.NInv Z i0 k d)) (fun _ _ is => n - (intOf is).toNat)
          case atStart => exact ⟨0, 0, Nat.zero_le _, rfl, rfl, rfl, by omega, by omega, Pl.ninv_start Z i0⟩
          case round =>
            obtain ⟨k, d, hk, rfl, rfl, rfl, hd1, hd2, hI⟩ := hrel
            by_cases hlt : k < n
            · obtain ⟨tb, off, ht1, ht2⟩ := (hTX2.out.below hbel)
              obtain rfl := ht1 (by omega)
              obtain ⟨c, hc⟩ : ∃ c, c = Z.getD (i0 + k) 0 := ⟨_, rfl⟩
              have hcx : wc.cell? ⟨tb, off + (i0 + k), none⟩ = some (.int .u8 c) := by rw [hc]; exact ht2 _ (by omega)
              have HC : Aside (c = Z.getD (i0 + k) 0) := hc
              clear hc ht2
              have e1 : ((i0 : Int) + (k : Int)).toNat = i0 + k := by omega
              obtain ⟨bi, hbi⟩ : ∃ b, b = Pl.ins Z i0 k := ⟨_, rfl⟩
              have hdst : wc.cell? ⟨w2.heap.size, k, none⟩ = some (.bool bi) := by rw [hox.cellAt k (by omega), hbi]; exact hxs.out k hlt
              cases bi with
              | true =>
                have hin : Aside (Pl.ins Z i0 k = true) := hbi.symm
                clear hbi
                go_wp2
                go_round
                case rel => exact ⟨k + 1, d, by omega, by go_num, rfl, rfl, by omega, by omega, Pl.ninv_in hI.out (by omega) hin.out⟩
                case measure => simp [intOf]; omega
              | false =>
                have hin : Aside (Pl.ins Z i0 k = false) := hbi.symm
                clear hbi
                by_cases h91 : c = 91
                · subst h91
                  by_cases hz : (d + 1) = 0
                  · have bz : ((d + 1) == 0) = true := by simpa using hz
                    have HZ : Aside (Pl.dl 91 d = 0) := by show Pl.dl 91 d = 0; rw [Pl.dl_up d (.inl rfl)]; exact hz
                    clear hz
                    obtain rfl : i0 + k + 1 = N := by
                      have e := HR.out
                      rw [Pl.ninv_stop hI.out (by omega) hin.out (by rw [← HC.out]; exact HZ.out)] at e
                      exact e
                    go_wp2
                    go_ret
                    exact ⟨rfl, hBc⟩
                  · have bz : ((d + 1) == 0) = false := by simpa using hz
                    have HZ : Aside (Pl.dl 91 d ≠ 0) := by show Pl.dl 91 d ≠ 0; rw [Pl.dl_up d (.inl rfl)]; exact hz
                    clear hz
                    go_wp2
                    go_round
                    case rel =>
                      have e := Pl.ninv_out hI.out (by omega) hin.out (by rw [← HC.out]; exact HZ.out)
                      rw [← HC.out, Pl.dl_up d (.inl rfl)] at e
                      exact ⟨k + 1, (d + 1), by omega, by go_num, rfl, rfl, by omega, by omega, e⟩
                    case measure => simp [intOf]; omega
                have b91 : (c == 91) = false := by simpa using h91
                by_cases h123 : c = 123
                · subst h123
                  by_cases hz : (d + 1) = 0
                  · have bz : ((d + 1) == 0) = true := by simpa using hz
                    have HZ : Aside (Pl.dl 123 d = 0) := by show Pl.dl 123 d = 0; rw [Pl.dl_up d (.inr rfl)]; exact hz
                    clear hz
                    obtain rfl : i0 + k + 1 = N := by
                      have e := HR.out
                      rw [Pl.ninv_stop hI.out (by omega) hin.out (by rw [← HC.out]; exact HZ.out)] at e
                      exact e
                    go_wp2
                    go_ret
                    exact ⟨rfl, hBc⟩
                  · have bz : ((d + 1) == 0) = false := by simpa using hz
                    have HZ : Aside (Pl.dl 123 d ≠ 0) := by show Pl.dl 123 d ≠ 0; rw [Pl.dl_up d (.inr rfl)]; exact hz
                    clear hz
                    go_wp2
                    go_round
                    case rel =>
                      have e := Pl.ninv_out hI.out (by omega) hin.out (by rw [← HC.out]; exact HZ.out)
                      rw [← HC.out, Pl.dl_up d (.inr rfl)] at e
                      exact ⟨k + 1, (d + 1), by omega, by go_num, rfl, rfl, by omega, by omega, e⟩
                    case measure => simp [intOf]; omega
                have b123 : (c == 123) = false := by simpa using h123
                by_cases h93 : c = 93
                · subst h93
                  by_cases hz : (d - 1) = 0
                  · have bz : ((d - 1) == 0) = true := by simpa using hz
                    have HZ : Aside (Pl.dl 93 d = 0) := by show Pl.dl 93 d = 0; rw [Pl.dl_down d (.inl rfl)]; exact hz
                    clear hz
                    obtain rfl : i0 + k + 1 = N := by
                      have e := HR.out
                      rw [Pl.ninv_stop hI.out (by omega) hin.out (by rw [← HC.out]; exact HZ.out)] at e
                      exact e
                    go_wp2
                    go_ret
                    exact ⟨rfl, hBc⟩
                  · have bz : ((d - 1) == 0) = false := by simpa using hz
                    have HZ : Aside (Pl.dl 93 d ≠ 0) := by show Pl.dl 93 d ≠ 0; rw [Pl.dl_down d (.inl rfl)]; exact hz
                    clear hz
                    go_wp2
                    go_round
                    case rel =>
                      have e := Pl.ninv_out hI.out (by omega) hin.out (by rw [← HC.out]; exact HZ.out)
                      rw [← HC.out, Pl.dl_down d (.inl rfl)] at e
                      exact ⟨k + 1, (d - 1), by omega, by go_num, rfl, rfl, by omega, by omega, e⟩
                    case measure => simp [intOf]; omega
                have b93 : (c == 93) = false := by simpa using h93
                by_cases h125 : c = 125
                · subst h125
                  by_cases hz : (d - 1) = 0
                  · have bz : ((d - 1) == 0) = true := by simpa using hz
                    have HZ : Aside (Pl.dl 125 d = 0) := by show Pl.dl 125 d = 0; rw [Pl.dl_down d (.inr rfl)]; exact hz
                    clear hz
                    obtain rfl : i0 + k + 1 = N := by
                      have e := HR.out
                      rw [Pl.ninv_stop hI.out (by omega) hin.out (by rw [← HC.out]; exact HZ.out)] at e
                      exact e
                    go_wp2
                    go_ret
                    exact ⟨rfl, hBc⟩
                  · have bz : ((d - 1) == 0) = false := by simpa using hz
                    have HZ : Aside (Pl.dl 125 d ≠ 0) := by show Pl.dl 125 d ≠ 0; rw [Pl.dl_down d (.inr rfl)]; exact hz
                    clear hz
                    go_wp2
                    go_round
                    case rel =>
                      have e := Pl.ninv_out hI.out (by omega) hin.out (by rw [← HC.out]; exact HZ.out)
                      rw [← HC.out, Pl.dl_down d (.inr rfl)] at e
                      exact ⟨k + 1, (d - 1), by omega, by go_num, rfl, rfl, by omega, by omega, e⟩
                    case measure => simp [intOf]; omega
                have b125 : (c == 125) = false := by simpa using h125
                by_cases hz : d = 0
                · have bz : (d == 0) = true := by simpa using hz
                  have HZ : Aside (Pl.dl c d = 0) := by show Pl.dl c d = 0; rw [Pl.dl_same d h91 h123 h93 h125]; exact hz
                  clear hz
                  obtain rfl : i0 + k + 1 = N := by
                    have e := HR.out
                    rw [Pl.ninv_stop hI.out (by omega) hin.out (by rw [← HC.out]; exact HZ.out)] at e
                    exact e
                  go_wp2
                  go_ret
                  exact ⟨rfl, hBc⟩
                · have bz : (d == 0) = false := by simpa using hz
                  have HZ : Aside (Pl.dl c d ≠ 0) := by show Pl.dl c d ≠ 0; rw [Pl.dl_same d h91 h123 h93 h125]; exact hz
                  clear hz
                  go_wp2
                  go_round
                  case rel =>
                    have e := Pl.ninv_out hI.out (by omega) hin.out (by rw [← HC.out]; exact HZ.out)
                    rw [← HC.out, Pl.dl_same d h91 h123 h93 h125] at e
                    exact ⟨k + 1, d, by omega, by go_num, rfl, rfl, by omega, by omega, e⟩
                  case measure => simp [intOf]; omega
            · obtain rfl : k = n := by omega
              obtain rfl : len0 = N := by
                have e := HR.out
                rw [Pl.ninv_end hI.out (by omega)] at e
                omega
              go_wp2
              go_ret
              exact ⟨rfl, hBc⟩
  · have hbig' : (1048576 : Int) < (len0 : Int) := by omega
    go_enter Try.func5, Try.ntmps5
    go_wp2
    go_ret
    exact ⟨rfl, Below.refl _ _⟩
end fnPastNestedWhole
end Go.Proofs.Qxb6602725a
