/-
  SEAT b6602904aD: the contracts of hasControllers and ZZhasControllers, out of the shelf's contract of strings.Fields.
-/
import Derived.Test.Qxb6602904aDoorShelf
import Derived.Test.Qxb6602904aDoorPlain
import Derived.WalkKit
import Derived.WalkSpells
import Derived.WalkLawsBesides
import Derived.WalkSmall
import Derived.Below
import Derived.Laws.OwnMore
import Derived.Deep.LoopGhost
import Derived.ProofKit
namespace Go.Proofs.Qxb6602904aDoor
open Go.RowKit

/-- The library's two tables, as their initialisers lay them. -/
def Tabs (w : World) : Prop := Lib.TabIs Tryd.prog w "strings.asciiSpace" .u8 Lib.asciiSpaceTab ∧ Lib.WhiteTab 1 w

theorem Tryd.gSpace : Tryd.prog.globalNamed "strings.asciiSpace" = some 0 := by kernel_rfl

theorem Tabs.below {w w' : World} (h : Tabs w) (hb : Below w.heap.size w w') : Tabs w' := by
  refine ⟨?_, WhiteTab_below h.2 hb⟩
  have h1 : 1 < w.heap.size := by
    obtain ⟨T, oT, R, oR, hc, _⟩ := h.2
    exact block_lt_of_cell hc
  exact var?_below hb Tryd.gSpace (by omega) h.1

/-- Is w among the first k words of T? -/
def anyT (T : List (List UInt8)) (w : List UInt8) (k : Nat) : Bool := (T.take k).any (· == w)
theorem anyT_succ (T : List (List UInt8)) (w : List UInt8) (k : Nat) (h : k < T.length) : anyT T w (k + 1) = (anyT T w k || (T.getD k [] == w)) := by
  unfold anyT
  rw [List.take_succ_eq_append_getElem h, List.any_append]
  simp [h]

theorem cell_str {T : List (List UInt8)} {w : World} {A base : Nat} (h : w.ownsRow base 9 1 (.slice (some ⟨A, 0, none⟩) T.length T.length) T.length (T.map fun x => Value.string ⟨x.toArray⟩)) (k : Nat) (hk : k < T.length) : w.cell? ⟨A, k, none⟩ = some (.string ⟨(T.getD k []).toArray⟩) := by
  rw [h.cellAt k (by omega), List.getElem?_map, List.getElem?_eq_getElem hk]; simp [hk]

theorem own_max {w : World} {base g n cap : Nat} {xs : List Value} (h : w.ownsRow base 9 1 (.slice (some ⟨g, 0, none⟩) n cap) n xs) : n ≤ 9223372036854775807 := by
  rcases h.2 with ⟨_, rfl⟩ | ⟨g', cap', cur, h', _, _, h1, h2, _⟩
  · exact Nat.zero_le _
  · unfold maxLen at h2; omega

set_option maxHeartbeats 1000000 in
theorem has_ctl (s : ByteArray) (w : World) (v : Bool) (hs : s.size < 4294967281) (hT : Tabs w) (hv : Aside (hcL s.data.toList = v)) :
    Calls Tryd.prog 19 #[.string s] w fun e w' => e = .returned (.bool v) ∧ Below w.heap.size w w' := by
  have hF := Tryd.strings_Fields_any s w hs hT.1 hT.2
  rw [← Lib.fieldsU_eq] at hF
  obtain ⟨T, hTT⟩ : ∃ T, T = Lib.fieldsU s.data.toList := ⟨_, rfl⟩
  rw [← hTT] at hF
  have HV : Aside ((anyT T cpuW T.length && anyT T memW T.length) = v) := by
    show _ = v
    rw [← hv.out]
    unfold anyT hcL has
    rw [List.take_length, hTT]
  clear hTT hv hT
  go_enter Tryd.func19, Tryd.ntmps19
  go_wp2_with fail
  refine hF.mono ?_
  clear hF
  rintro e w1 ⟨A, rfl, hA, hown, hb⟩
  have HN := own_max hown
  go_wp2_with fail
  go_loop [3, 4, 10] (fun cs ms is => ∃ k : Nat, k ≤ T.length ∧ is = .int .i64 (k : Int) ∧ cs = .bool (anyT T cpuW k) ∧ ms = .bool (anyT T memW k)) (fun _ _ is => T.length - (intOf is).toNat)
  case atStart => exact ⟨0, Nat.zero_le _, rfl, rfl, rfl⟩
  case round =>
    obtain ⟨k, hk, rfl, rfl, rfl⟩ := hrel
    by_cases hlt : k < T.length
    · obtain ⟨x, hx⟩ : ∃ x, x = T.getD k [] := ⟨_, rfl⟩
      obtain ⟨s', hs'⟩ : ∃ s' : ByteArray, s' = ⟨x.toArray⟩ := ⟨_, rfl⟩
      have hcx : w1.cell? ⟨A, k, none⟩ = some (.string s') := by rw [hs', hx]; exact cell_str hown k hlt
      have hl : s'.toList = x := by rw [hs', Lib.toList_data]
      have C1 := anyT_succ T cpuW k hlt
      have M1 := anyT_succ T memW k hlt
      rw [← hx, ← hl] at C1 M1
      have HC : Aside (anyT T cpuW (k + 1) = (anyT T cpuW k || (s'.toList == cpuW))) := C1
      have HM : Aside (anyT T memW (k + 1) = (anyT T memW k || (s'.toList == memW))) := M1
      clear C1 M1 hl hs' hx
      obtain ⟨c, hc⟩ : ∃ c, c = anyT T cpuW k := ⟨_, rfl⟩
      obtain ⟨m, hm⟩ : ∃ m, m = anyT T memW k := ⟨_, rfl⟩
      rw [← hc, ← hm]
      have HC2 : Aside (c = anyT T cpuW k ∧ m = anyT T memW k) := ⟨hc, hm⟩
      clear hc hm
      cases hq1 : (s'.toList == [99, 112, 117]) with
      | true =>
        have hq2 : (s'.toList == [109, 101, 109, 111, 114, 121]) = false := by rw [beq_iff_eq.1 hq1]; rfl
        go_wp2
        go_round
        case rel =>
          refine ⟨k + 1, by omega, by go_num, ?_, ?_⟩
          · rw [HC.out, ← HC2.out.1]; show _ = Value.bool (c || (s'.toList == [99, 112, 117])); rw [hq1]; simp
          · rw [HM.out, ← HC2.out.2]; show _ = Value.bool (m || (s'.toList == [109, 101, 109, 111, 114, 121])); rw [hq2]; simp
        case measure => simp [intOf]; omega
      | false =>
        cases hq2 : (s'.toList == [109, 101, 109, 111, 114, 121]) with
        | true =>
          go_wp2
          go_round
          case rel =>
            refine ⟨k + 1, by omega, by go_num, ?_, ?_⟩
            · rw [HC.out, ← HC2.out.1]; show _ = Value.bool (c || (s'.toList == [99, 112, 117])); rw [hq1]; simp
            · rw [HM.out, ← HC2.out.2]; show _ = Value.bool (m || (s'.toList == [109, 101, 109, 111, 114, 121])); rw [hq2]; simp
          case measure => simp [intOf]; omega
        | false =>
          go_wp2
          go_round
          case rel =>
            refine ⟨k + 1, by omega, by go_num, ?_, ?_⟩
            · rw [HC.out, ← HC2.out.1]; show _ = Value.bool (c || (s'.toList == [99, 112, 117])); rw [hq1]; simp
            · rw [HM.out, ← HC2.out.2]; show _ = Value.bool (m || (s'.toList == [109, 101, 109, 111, 114, 121])); rw [hq2]; simp
          case measure => simp [intOf]; omega
    · obtain rfl : k = T.length := by omega
      cases hc : anyT T cpuW T.length with
      | true =>
        obtain rfl : anyT T memW T.length = v := by rw [← HV.out, hc]; rfl
        go_wp2
        go_ret
        exact ⟨rfl, hb⟩
      | false =>
        obtain rfl : false = v := by rw [← HV.out, hc]; rfl
        go_wp2
        go_ret
        exact ⟨rfl, hb⟩

theorem zz_ctl (s : ByteArray) (w : World) (v : Bool) (hs : s.size < 4294967281) (hT : Tabs w) (hv : Aside (hcL s.data.toList = v)) :
    Calls Tryd.prog 14 #[.string s] w fun e w' => e = .returned (.bool v) ∧ Below w.heap.size w w' := by
  go_enter Tryd.func14, Tryd.ntmps14
  go_wp2_with fail
  refine (has_ctl s _ v hs hT hv).mono ?_
  rintro e w1 ⟨rfl, hb⟩
  go_wp2_with fail
  go_ret
  exact ⟨rfl, hb⟩
end Go.Proofs.Qxb6602904aDoor
