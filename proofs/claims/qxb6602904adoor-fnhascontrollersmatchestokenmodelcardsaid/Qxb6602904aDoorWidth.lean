/-
  SEAT b6602904aD: the contract of spaceWidthCgB1.
-/
import Derived.Test.Qxb6602904aDoorHas
namespace Go.Proofs.Qxb6602904aDoor
open Go.RowKit

theorem ret_int {k : IntKind} {a b : Int} (h : a = b) : Ending.returned (.int k a) = .returned (.int k b) := by rw [h]

/-- The width, of the first bytes (n of them are there). -/
def swW (n : Nat) (c0 c1 c2 : Int) : Int :=
  if c0 = 9 ∨ c0 = 10 ∨ c0 = 11 ∨ c0 = 12 ∨ c0 = 13 ∨ c0 = 32 then 1
  else if c0 = 194 ∧ 1 < n ∧ (c1 = 133 ∨ c1 = 160) then 2
  else if ¬ 2 < n then 0
  else if c0 = 225 ∧ c1 = 154 ∧ c2 = 128 then 3
  else if c0 = 226 ∧ c1 = 128 ∧ ((128 ≤ c2 ∧ c2 ≤ 138) ∨ c2 = 168 ∨ c2 = 169 ∨ c2 = 175) then 3
  else if c0 = 226 ∧ c1 = 129 ∧ c2 = 159 then 3
  else if c0 = 227 ∧ c1 = 128 ∧ c2 = 128 then 3
  else 0

theorem c0_cases (c0 : Int) : c0 = 9 ∨ c0 = 10 ∨ c0 = 11 ∨ c0 = 12 ∨ c0 = 13 ∨ c0 = 32 ∨ c0 = 194 ∨ c0 = 225 ∨ c0 = 226 ∨ c0 = 227 ∨
    ((c0 == 9) = false ∧ (c0 == 10) = false ∧ (c0 == 11) = false ∧ (c0 == 12) = false ∧ (c0 == 13) = false ∧ (c0 == 32) = false ∧ (c0 == 194) = false ∧ (c0 == 225) = false ∧ (c0 == 226) = false ∧ (c0 == 227) = false) := by
  simp only [beq_eq_false_iff_ne]; omega

set_option maxHeartbeats 4000000 in
theorem sw3 (s : ByteArray) (i : Nat) (w : World) (hs : s.size ≤ 1048576) (c0 c1 c2 r : Int) (h2 : i + 2 < s.size) (h0 : (s[i].toNat : Int) = c0) (h1 : (s[i + 1].toNat : Int) = c1) (h2' : (s[i + 2].toNat : Int) = c2) (hr : Aside (r = swW 3 c0 c1 c2)) :
    Calls Tryd.prog 17 #[.string s, .int .i64 i] w fun e w' => e = .returned (.int .i64 r) ∧ w = w' := by
  rcases c0_cases c0 with rfl | rfl | rfl | rfl | rfl | rfl | rfl | rfl | rfl | rfl | ⟨n1, n2, n3, n4, n5, n6, n7, n8, n9, n10⟩
  all_goals
    go_enter Tryd.func17, Tryd.ntmps17
    go_wp2
    all_goals
      go_ret
      refine ⟨ret_int ?_, rfl⟩
      rw [hr.out]
      clear hr
      (try simp only [beq_iff_eq] at *)
      (try simp only [beq_eq_false_iff_ne] at *)
      unfold swW
      repeat' split
      all_goals omega

set_option maxHeartbeats 4000000 in
theorem sw2 (s : ByteArray) (i : Nat) (w : World) (hs : s.size ≤ 1048576) (c0 c1 c2 r : Int) (h1' : i + 1 < s.size) (h2 : ¬ i + 2 < s.size) (h0 : (s[i].toNat : Int) = c0) (h1 : (s[i + 1].toNat : Int) = c1) (hr : Aside (r = swW 2 c0 c1 c2)) :
    Calls Tryd.prog 17 #[.string s, .int .i64 i] w fun e w' => e = .returned (.int .i64 r) ∧ w = w' := by
  rcases c0_cases c0 with rfl | rfl | rfl | rfl | rfl | rfl | rfl | rfl | rfl | rfl | ⟨n1, n2, n3, n4, n5, n6, n7, n8, n9, n10⟩
  all_goals
    go_enter Tryd.func17, Tryd.ntmps17
    go_wp2
    all_goals
      go_ret
      refine ⟨ret_int ?_, rfl⟩
      rw [hr.out]
      clear hr
      (try simp only [beq_iff_eq] at *)
      (try simp only [beq_eq_false_iff_ne] at *)
      unfold swW
      repeat' split
      all_goals omega

set_option maxHeartbeats 4000000 in
theorem sw1 (s : ByteArray) (i : Nat) (w : World) (hs : s.size ≤ 1048576) (c0 c1 c2 r : Int) (hi : i < s.size) (h2 : ¬ i + 1 < s.size) (h0 : (s[i].toNat : Int) = c0) (hr : Aside (r = swW 1 c0 c1 c2)) :
    Calls Tryd.prog 17 #[.string s, .int .i64 i] w fun e w' => e = .returned (.int .i64 r) ∧ w = w' := by
  rcases c0_cases c0 with rfl | rfl | rfl | rfl | rfl | rfl | rfl | rfl | rfl | rfl | ⟨n1, n2, n3, n4, n5, n6, n7, n8, n9, n10⟩
  all_goals
    go_enter Tryd.func17, Tryd.ntmps17
    go_wp2
    all_goals
      go_ret
      refine ⟨ret_int ?_, rfl⟩
      rw [hr.out]
      clear hr
      (try simp only [beq_iff_eq] at *)
      (try simp only [beq_eq_false_iff_ne] at *)
      unfold swW
      repeat' split
      all_goals omega
end Go.Proofs.Qxb6602904aDoor
