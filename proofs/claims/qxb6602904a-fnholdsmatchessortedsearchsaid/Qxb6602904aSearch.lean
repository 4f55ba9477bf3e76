/-
  SEAT b6602904a: FnHoldsMatchesSortedSearch, walked.
-/
import Derived.Test.Qxb6602904aSort
namespace Go.Proofs.Qxb6602904a
open Go.RowKit

namespace fnHoldsMatchesSortedSearch
set_option maxHeartbeats 2000000 in
theorem walk_in (lA cA : Nat) (aA : Option Addr) (A : List ByteArray) (x : ByteArray) (w : World) (nA : aA = none → lA = 0 ∧ cA = 0) (hA : A.length = lA) (TA : TS w aA A) (mA : lA ≤ 65536) (mx : x.size ≤ 1048576) :
    Calls Try.prog 3 #[.slice aA lA cA, .string x] w fun e w' => e = .returned (.bool true) ∧ Below w.heap.size w w' := by
  have TA' : Aside (TS w aA A) := TA
  have NA : Aside (aA = none → lA = 0 ∧ cA = 0) := nA
  clear TA nA
  have d0 : decide ((65536 : Int) < (lA : Int)) = false := decide_eq_false (by omega)
  have d1 : decide ((1048576 : Int) < (x.size : Int)) = false := decide_eq_false (by omega)
  obtain ⟨v, hv⟩ : ∃ v, hol A x = v := ⟨_, rfl⟩
  have HV : Aside (hol A x = v) := hv
  clear hv
  go_enter Try.func3, Try.ntmps3
  go_wp2_with fail
  refine (zzb_ms lA cA aA A x _ hA (by omega) TA'.out).mono ?_
  rintro e w' ⟨⟨b, rfl⟩, rfl⟩
  cases b with
  | false =>
    go_wp2_with fail
    go_ret
    exact ⟨rfl, Below.refl _ _⟩
  | true =>
    go_wp2_with fail
    refine (sb_any lA cA aA A _ hA (by omega) TA'.out).mono ?_
    rintro e w' ⟨⟨n1, rfl⟩, rfl⟩
    go_wp2_with fail
    · go_ret
      exact ⟨rfl, Below.refl _ _⟩
    refine (clone_any aA lA cA A _ NA.out hA (by omega) TA'.out).mono ?_
    rintro e w1 ⟨tA, rfl, hb1, X1⟩
    have XA : Aside (TS w1 tA A) := X1
    clear X1 TA' NA
    go_wp2_with fail
    refine (sort_any lA lA tA A _ hA mA (Nat.le_refl _) XA.out).mono ?_
    rintro e w2 ⟨g, R, rfl, hb2, XR, SR⟩
    have hB : Below w.heap.size w w2 := hb1.trans (hb2.mono hb1.size)
    have XA2 : Aside (TS w2 tA A) := XA.out.below hb2
    have XR' : Aside (TS w2 (some ⟨g, 0, none⟩) R) := XR
    have SR' : Aside (Sorts A R) := SR
    have hR : R.length = lA := by rw [SR.1]; exact hA
    have HR : Aside (hol R x = v) := by show hol R x = v; rw [hol_sorts SR]; exact HV.out
    clear XR SR XA hb1 hb2
    go_wp2_with fail
    refine (zz_holds lA lA tA A x _ v hA (by omega) XA2.out HV).mono ?_
    rintro e w' ⟨rfl, rfl⟩
    go_wp2_with fail
    refine (has_any lA lA _ R x _ v hR (by omega) XR'.out SR'.out.2.1 HR).mono ?_
    rintro e w' ⟨rfl, rfl⟩
    go_wp2_with fail
    go_ret
    exact ⟨by simp, hB⟩

set_option maxHeartbeats 1000000 in
theorem walk (aA : Option Addr) (lA cA : Nat) (sA : List ByteArray) (x : ByteArray) (w : World) (w0 : IsStrs w aA lA cA sA) (mx : x.size ≤ 9223372036854775807) :
    Calls Try.prog 3 #[.slice aA lA cA, .string x] w fun e w' => e = .returned (.bool true) ∧ Below w.heap.size w w' := by
  have mA := w0.max
  have hA := w0.len
  have T0 : Aside (TS w aA (sA.take lA)) := w0.ts
  generalize sA.take lA = A at hA T0
  by_cases h0 : lA ≤ 65536
  · by_cases h2 : x.size ≤ 1048576
    · exact walk_in lA cA aA _ x w w0.nil0 hA T0.out h0 h2
    · have h2' : (1048576 : Int) < (x.size : Int) := by omega
      have d0 : decide ((65536 : Int) < (lA : Int)) = false := decide_eq_false (by omega)
      clear h2 w0
      go_enter Try.func3, Try.ntmps3
      go_wp2_with fail
      refine (zzb_ms lA cA aA _ x _ hA mA T0.out).mono ?_
      rintro e w' ⟨⟨b, rfl⟩, rfl⟩
      cases b with
      | false =>
        go_wp2_with fail
        go_ret
        exact ⟨rfl, Below.refl _ _⟩
      | true =>
        go_wp2_with fail
        go_ret
        exact ⟨rfl, Below.refl _ _⟩
  · have h0' : (65536 : Int) < (lA : Int) := by omega
    clear h0 w0
    go_enter Try.func3, Try.ntmps3
    go_wp2_with fail
    refine (zzb_ms lA cA aA _ x _ hA mA T0.out).mono ?_
    rintro e w' ⟨⟨b, rfl⟩, rfl⟩
    cases b with
    | false =>
      go_wp2_with fail
      go_ret
      exact ⟨rfl, Below.refl _ _⟩
    | true =>
      go_wp2_with fail
      go_ret
      exact ⟨rfl, Below.refl _ _⟩
end fnHoldsMatchesSortedSearch
end Go.Proofs.Qxb6602904a
