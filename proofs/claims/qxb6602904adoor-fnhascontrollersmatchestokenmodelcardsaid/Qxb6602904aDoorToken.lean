/-
  SEAT b6602904aD: FnHasControllersMatchesTokenModel, walked.
-/
import Derived.Test.Qxb6602904aDoorModel
namespace Go.Proofs.Qxb6602904aDoor
open Go.RowKit

theorem hol_has (K : List ByteArray) (s : ByteArray) (x : ByteArray) (h : K.map (·.data.toList) = Lib.fieldsU s.data.toList) : hol K x = has x.data.toList s.data.toList := by
  unfold hol has
  rw [← h, List.any_map]
  apply congrArg (fun f => K.any f)
  funext o
  simp [Lib.toList_data]

namespace fnHasControllersMatchesTokenModel
set_option maxHeartbeats 2000000 in
theorem walk_in (s : ByteArray) (w : World) (hT : Tabs w) (hs : s.size ≤ 1048576) :
    Calls Tryd.prog 5 #[.string s] w fun e w' => e = .returned (.bool true) ∧ Below w.heap.size w w' := by
  have hT' : Aside (Tabs w) := hT
  obtain ⟨p, hp⟩ : ∃ p, has cpuW s.data.toList = p := ⟨_, rfl⟩
  obtain ⟨q, hq⟩ : ∃ q, has memW s.data.toList = q := ⟨_, rfl⟩
  have HC : Aside (hcL s.data.toList = (p && q)) := by show hcL s.data.toList = (p && q); unfold hcL; rw [hp, hq]
  have HP : Aside (has cpuW s.data.toList = p ∧ has memW s.data.toList = q) := ⟨hp, hq⟩
  clear hT hp hq
  have d1 : decide ((1048576 : Int) < (s.size : Int)) = false := decide_eq_false (by omega)
  go_enter Tryd.func5, Tryd.ntmps5
  go_wp2_with (go_at_call 11; go_in)
  refine (model_any s _ hs).mono ?_
  rintro e w1 ⟨a, cap, K, rfl, b1, ht, hn, hK⟩
  have X : Aside (TS w1 a K) := ht
  have H1 : Aside (hol K ⟨#[99, 112, 117]⟩ = p) := by show _ = p; rw [hol_has K s _ hK]; exact HP.out.1
  have H2 : Aside (hol K ⟨#[109, 101, 109, 111, 114, 121]⟩ = q) := by show _ = q; rw [hol_has K s _ hK]; exact HP.out.2
  have T1 : Aside (Tabs w1) := hT'.out.below b1
  clear ht hK HP hT'
  go_wp2_with fail
  cases p with
  | true =>
    refine (zz_holds _ _ a K ⟨#[99, 112, 117]⟩ _ true rfl (by omega) X.out H1).mono ?_
    rintro e w' ⟨rfl, rfl⟩
    go_wp2_with fail
    refine (zz_holds _ _ a K ⟨#[109, 101, 109, 111, 114, 121]⟩ _ q rfl (by omega) X.out H2).mono ?_
    rintro e w' ⟨rfl, rfl⟩
    go_wp2_with fail
    refine (zz_ctl s _ q (by omega) T1.out (by simpa using HC)).mono ?_
    rintro e w2 ⟨rfl, b2⟩
    go_wp2_with fail
    go_ret
    exact ⟨by simp, b1.trans (b2.mono b1.size)⟩
  | false =>
    refine (zz_holds _ _ a K ⟨#[99, 112, 117]⟩ _ false rfl (by omega) X.out H1).mono ?_
    rintro e w' ⟨rfl, rfl⟩
    go_wp2_with fail
    refine (zz_ctl s _ false (by omega) T1.out (by simpa using HC)).mono ?_
    rintro e w2 ⟨rfl, b2⟩
    go_wp2_with fail
    go_ret
    exact ⟨by simp, b1.trans (b2.mono b1.size)⟩

set_option maxHeartbeats 1000000 in
theorem walk (s : ByteArray) (w : World) (hT : Tabs w) (ms : s.size ≤ 9223372036854775807) :
    Calls Tryd.prog 5 #[.string s] w fun e w' => e = .returned (.bool true) ∧ Below w.heap.size w w' := by
  by_cases hs : s.size ≤ 1048576
  · exact walk_in s w hT hs
  · have hs' : (1048576 : Int) < (s.size : Int) := by omega
    clear hT hs
    go_enter Tryd.func5, Tryd.ntmps5
    go_wp2_with (go_at_call 11; go_in)
    all_goals (go_ret; exact ⟨rfl, Below.refl _ _⟩)
end fnHasControllersMatchesTokenModel
end Go.Proofs.Qxb6602904aDoor
