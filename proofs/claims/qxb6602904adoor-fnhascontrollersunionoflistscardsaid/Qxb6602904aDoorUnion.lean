/-
  SEAT b6602904aD: FnHasControllersUnionOfLists, walked.
-/
import Derived.Test.Qxb6602904aDoorHas
import Derived.Lib.SmallJoins
namespace Go.Proofs.Qxb6602904aDoor
open Go.RowKit

theorem dl (a b : ByteArray) : (a ++ b).data.toList = a.data.toList ++ b.data.toList := Joins.data_append a b

namespace fnHasControllersUnionOfLists
set_option maxHeartbeats 2000000 in
theorem walk_in (a b : ByteArray) (w : World) (hT : Tabs w) (ha : a.size ≤ 524288) (hb : b.size ≤ 524288) :
    Calls Tryd.prog 6 #[.string a, .string b] w fun e w' => e = .returned (.bool true) ∧ Below w.heap.size w w' := by
  have hT' : Aside (Tabs w) := hT
  obtain ⟨V, hV⟩ : ∃ V, hcL (a.data.toList ++ 32 :: b.data.toList) = V := ⟨_, rfl⟩
  obtain ⟨p, hp⟩ : ∃ p, hcL a.data.toList = p := ⟨_, rfl⟩
  obtain ⟨q, hq⟩ : ∃ q, hcL b.data.toList = q := ⟨_, rfl⟩
  have HV : Aside (hcL (a.data.toList ++ 32 :: b.data.toList) = V) := hV
  have HP : Aside (hcL a.data.toList = p) := hp
  have HQ : Aside (hcL b.data.toList = q) := hq
  have HK : Aside ((p || q) = true → V = true) := by
    intro h
    rw [← hV]
    exact hc_keep _ _ (by rw [hp, hq]; exact h)
  have E1 : Aside (hcL (a ++ ⟨#[32]⟩ ++ b).data.toList = V) := by show _ = V; rw [dl, dl, ← hV]; simp
  have E2 : Aside (hcL (b ++ ⟨#[32]⟩ ++ a).data.toList = V) := by
    show _ = V
    rw [dl, dl, ← hV, hc_comm]; simp
  have E3 : Aside (hcL (⟨#[109, 101, 109, 111, 114, 121, 32]⟩ ++ a ++ ⟨#[32, 99, 112, 117]⟩ : ByteArray).data.toList = true) := by
    show _ = true
    rw [dl, dl, ← hc_frame1 a.data.toList]; simp [memW, cpuW]
  have E4 : Aside (hcL (⟨#[99, 112, 117, 9]⟩ ++ b ++ ⟨#[10, 109, 101, 109, 111, 114, 121]⟩ : ByteArray).data.toList = true) := by
    show _ = true
    rw [dl, dl, ← hc_frame2 b.data.toList]; simp [memW, cpuW]
  have z1 : (⟨#[32]⟩ : ByteArray).size = 1 := rfl
  have z2 : (⟨#[109, 101, 109, 111, 114, 121, 32]⟩ : ByteArray).size = 7 := rfl
  have z3 : (⟨#[32, 99, 112, 117]⟩ : ByteArray).size = 4 := rfl
  have z4 : (⟨#[99, 112, 117, 9]⟩ : ByteArray).size = 4 := rfl
  have z5 : (⟨#[10, 109, 101, 109, 111, 114, 121]⟩ : ByteArray).size = 7 := rfl
  have S1 : Aside ((a ++ ⟨#[32]⟩ ++ b).size < 4294967281) := by show _ < _; rw [ByteArray.size_append, ByteArray.size_append, z1]; omega
  have S2 : Aside ((b ++ ⟨#[32]⟩ ++ a).size < 4294967281) := by show _ < _; rw [ByteArray.size_append, ByteArray.size_append, z1]; omega
  have S3 : Aside ((⟨#[109, 101, 109, 111, 114, 121, 32]⟩ ++ a ++ ⟨#[32, 99, 112, 117]⟩ : ByteArray).size < 4294967281) := by show _ < _; rw [ByteArray.size_append, ByteArray.size_append, z2, z3]; omega
  have S4 : Aside ((⟨#[99, 112, 117, 9]⟩ ++ b ++ ⟨#[10, 109, 101, 109, 111, 114, 121]⟩ : ByteArray).size < 4294967281) := by show _ < _; rw [ByteArray.size_append, ByteArray.size_append, z4, z5]; omega
  have d1 : decide ((524288 : Int) < (a.size : Int)) = false := decide_eq_false (by omega)
  have d2 : decide ((524288 : Int) < (b.size : Int)) = false := decide_eq_false (by omega)
  clear hT hV hp hq z1 z2 z3 z4 z5
  go_enter Tryd.func6, Tryd.ntmps6
  go_wp2_with (go_at_call 15; go_in)
  have T0 := hT'
  have B0 : Below w.heap.size w w := Below.refl _ _
  refine (zz_ctl _ _ V S1.out T0.out E1).mono ?_
  rintro e w1 ⟨rfl, b1⟩
  have T1 : Aside (Tabs w1) := T0.out.below b1
  have B1 : Below w.heap.size w w1 := B0.trans (b1.mono B0.size)
  clear b1
  go_wp2_with fail
  refine (zz_ctl _ _ V S2.out T1.out E2).mono ?_
  rintro e w2 ⟨rfl, b2⟩
  have T2 : Aside (Tabs w2) := T1.out.below b2
  have B2 : Below w.heap.size w w2 := B1.trans (b2.mono B1.size)
  clear b2
  go_wp2_with fail
  cases p with
  | true =>
    obtain rfl : V = true := HK.out rfl
    refine (zz_ctl _ _ true (by omega) T2.out HP).mono ?_
    rintro e w3 ⟨rfl, b3⟩
    have T3 : Aside (Tabs w3) := T2.out.below b3
    have B3 : Below w.heap.size w w3 := B2.trans (b3.mono B2.size)
    clear b3
    go_wp2_with fail
    refine (zz_ctl _ _ true S3.out T3.out E3).mono ?_
    rintro e w4 ⟨rfl, b4⟩
    have T4 : Aside (Tabs w4) := T3.out.below b4
    have B4 : Below w.heap.size w w4 := B3.trans (b4.mono B3.size)
    clear b4
    go_wp2_with fail
    refine (zz_ctl _ _ true S4.out T4.out E4).mono ?_
    rintro e w5 ⟨rfl, b5⟩
    have T5 : Aside (Tabs w5) := T4.out.below b5
    have B5 : Below w.heap.size w w5 := B4.trans (b5.mono B4.size)
    clear b5
    go_wp2_with fail
    go_ret
    exact ⟨rfl, B5⟩
  | false =>
    refine (zz_ctl _ _ false (by omega) T2.out HP).mono ?_
    rintro e w3 ⟨rfl, b3⟩
    have T3 : Aside (Tabs w3) := T2.out.below b3
    have B3 : Below w.heap.size w w3 := B2.trans (b3.mono B2.size)
    clear b3
    go_wp2_with fail
    cases q with
    | true =>
      obtain rfl : V = true := HK.out rfl
      refine (zz_ctl _ _ true (by omega) T3.out HQ).mono ?_
      rintro e w4 ⟨rfl, b4⟩
      have T4 : Aside (Tabs w4) := T3.out.below b4
      have B4 : Below w.heap.size w w4 := B3.trans (b4.mono B3.size)
      clear b4
      go_wp2_with fail
      refine (zz_ctl _ _ true S3.out T4.out E3).mono ?_
      rintro e w5 ⟨rfl, b5⟩
      have T5 : Aside (Tabs w5) := T4.out.below b5
      have B5 : Below w.heap.size w w5 := B4.trans (b5.mono B4.size)
      clear b5
      go_wp2_with fail
      refine (zz_ctl _ _ true S4.out T5.out E4).mono ?_
      rintro e w6 ⟨rfl, b6⟩
      have T6 : Aside (Tabs w6) := T5.out.below b6
      have B6 : Below w.heap.size w w6 := B5.trans (b6.mono B5.size)
      clear b6
      go_wp2_with fail
      go_ret
      exact ⟨rfl, B6⟩
    | false =>
      refine (zz_ctl _ _ false (by omega) T3.out HQ).mono ?_
      rintro e w4 ⟨rfl, b4⟩
      have T4 : Aside (Tabs w4) := T3.out.below b4
      have B4 : Below w.heap.size w w4 := B3.trans (b4.mono B3.size)
      clear b4
      go_wp2_with fail
      refine (zz_ctl _ _ true S3.out T4.out E3).mono ?_
      rintro e w5 ⟨rfl, b5⟩
      have T5 : Aside (Tabs w5) := T4.out.below b5
      have B5 : Below w.heap.size w w5 := B4.trans (b5.mono B4.size)
      clear b5
      go_wp2_with fail
      refine (zz_ctl _ _ true S4.out T5.out E4).mono ?_
      rintro e w6 ⟨rfl, b6⟩
      have T6 : Aside (Tabs w6) := T5.out.below b6
      have B6 : Below w.heap.size w w6 := B5.trans (b6.mono B5.size)
      clear b6
      go_wp2_with fail
      go_ret
      exact ⟨rfl, B6⟩

set_option maxHeartbeats 1000000 in
theorem walk (a b : ByteArray) (w : World) (hT : Tabs w) (ma : a.size ≤ 9223372036854775807) (mb : b.size ≤ 9223372036854775807) :
    Calls Tryd.prog 6 #[.string a, .string b] w fun e w' => e = .returned (.bool true) ∧ Below w.heap.size w w' := by
  by_cases ha : a.size ≤ 524288
  · by_cases hb : b.size ≤ 524288
    · exact walk_in a b w hT ha hb
    · have hb' : (524288 : Int) < (b.size : Int) := by omega
      clear hT
      go_enter Tryd.func6, Tryd.ntmps6
      go_wp2_with (go_at_call 15; go_in)
      all_goals (go_ret; exact ⟨rfl, Below.refl _ _⟩)
  · have ha' : (524288 : Int) < (a.size : Int) := by omega
    clear hT
    go_enter Tryd.func6, Tryd.ntmps6
    go_wp2_with (go_at_call 15; go_in)
    all_goals (go_ret; exact ⟨rfl, Below.refl _ _⟩)
end fnHasControllersUnionOfLists
end Go.Proofs.Qxb6602904aDoor
