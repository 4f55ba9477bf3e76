/-
  SEAT b6602904aD: the token model's pass, step by step, in plain words.
-/
import Derived.Test.Qxb6602904aDoorTok
namespace Go.Proofs.Qxb6602904aDoor
open Go.Lib

/-- The open token: from 'st' up to place i. -/
def curT (l : List UInt8) (st : Option Nat) (i : Nat) : List UInt8 := match st with | some a => (l.drop a).take (i - a) | none => []
/-- The tokens so far and what is to come are the fields. -/
def Pass (l : List UInt8) (K : List (List UInt8)) (st : Option Nat) (i : Nat) : Prop := K ++ fu (curT l st i) (l.drop i) = fieldsU l

theorem pass_start (l : List UInt8) : Pass l [] none 0 := by unfold Pass curT; rw [fieldsU_fu]; simp

theorem cur_ne {l : List UInt8} {a i : Nat} (h : a < i) (hi : i ≤ l.length) : (l.drop a).take (i - a) ≠ [] := by
  intro h0
  have := congrArg List.length h0
  rw [List.length_take, List.length_drop, List.length_nil] at this
  omega

theorem drop_cons {l : List UInt8} {i : Nat} (hi : i < l.length) : l.drop i = l[i] :: l.drop (i + 1) := List.drop_eq_getElem_cons hi

theorem pass_out_none {l : List UInt8} {K : List (List UInt8)} {i : Nat} (h : Pass l K none i) (hi : i < l.length) (hw : headSpace (l.drop i) ≠ 0) : Pass l K none (i + headSpace (l.drop i)) := by
  unfold Pass curT at h ⊢
  rw [← h]
  generalize hn : headSpace (l.drop i) = n at hw ⊢
  rw [drop_cons hi] at hn ⊢
  rw [fu_out [] _ _ (by rw [hn]; exact hw), hn, if_pos rfl, List.nil_append, ← drop_cons hi, List.drop_drop]

theorem pass_out_some {l : List UInt8} {K : List (List UInt8)} {i a : Nat} (h : Pass l K (some a) i) (ha : a < i) (hi : i < l.length) (hw : headSpace (l.drop i) ≠ 0) : Pass l (K ++ [(l.drop a).take (i - a)]) none (i + headSpace (l.drop i)) := by
  unfold Pass curT at h ⊢
  rw [← h]
  simp only
  have hne := cur_ne ha (Nat.le_of_lt hi)
  generalize (l.drop a).take (i - a) = c at hne ⊢
  generalize hn : headSpace (l.drop i) = n at hw ⊢
  rw [drop_cons hi] at hn ⊢
  rw [fu_out c _ _ (by rw [hn]; exact hw), hn, if_neg hne, ← drop_cons hi, List.drop_drop, List.append_assoc]

theorem pass_in_none {l : List UInt8} {K : List (List UInt8)} {i : Nat} (h : Pass l K none i) (hi : i < l.length) (hw : headSpace (l.drop i) = 0) : Pass l K (some i) (i + 1) := by
  unfold Pass curT at h ⊢
  rw [← h]
  simp only
  rw [show i + 1 - i = 1 from by omega]
  rw [drop_cons hi] at hw ⊢
  rw [fu_in [] _ _ hw]; rfl

theorem pass_in_some {l : List UInt8} {K : List (List UInt8)} {i a : Nat} (h : Pass l K (some a) i) (ha : a < i) (hi : i < l.length) (hw : headSpace (l.drop i) = 0) : Pass l K (some a) (i + 1) := by
  unfold Pass curT at h ⊢
  rw [← h]
  simp only
  have e : (l.drop a).take (i + 1 - a) = (l.drop a).take (i - a) ++ [l[i]] := by
    rw [show i + 1 - a = (i - a) + 1 from by omega, List.take_succ_eq_append_getElem (by rw [List.length_drop]; omega), List.getElem_drop]
    congr 3
    omega
  rw [e]
  rw [drop_cons hi] at hw ⊢
  rw [fu_in _ _ _ hw]

theorem pass_end_none {l : List UInt8} {K : List (List UInt8)} {i : Nat} (h : Pass l K none i) (hi : l.length ≤ i) : K = fieldsU l := by
  unfold Pass curT at h
  rw [List.drop_eq_nil_of_le hi, fu_nil, if_pos rfl, List.append_nil] at h
  exact h

theorem pass_end_some {l : List UInt8} {K : List (List UInt8)} {i a : Nat} (h : Pass l K (some a) i) (ha : a < i) (hi : i = l.length) : K ++ [l.drop a] = fieldsU l := by
  unfold Pass curT at h
  simp only at h
  have hne := cur_ne ha (Nat.le_of_eq hi)
  have e : (l.drop a).take (i - a) = l.drop a := List.take_of_length_le (by rw [List.length_drop]; omega)
  have e2 : l.drop i = [] := List.drop_eq_nil_of_le (by omega)
  rw [e2, fu_nil, if_neg hne, e] at h
  exact h

theorem swW_n {n : Nat} (h : 2 < n) (c0 c1 c2 : Int) : swW n c0 c1 c2 = swW 3 c0 c1 c2 := by
  unfold swW
  simp only [show (1 < n) = True from propext ⟨fun _ => trivial, fun _ => by omega⟩, show (2 < n) = True from propext ⟨fun _ => trivial, fun _ => h⟩]
  simp

theorem getD_drop (s : ByteArray) (i k : Nat) (h : i + k < s.size) : (s.data.toList.drop i).getD k 0 = s[i + k] := by
  have h2 : i + k < s.data.toList.length := by rw [← Lib.size_eq]; exact h
  rw [List.getD_eq_getElem?_getD, List.getElem?_drop, List.getElem?_eq_getElem h2]; rfl

open Go.RowKit in
theorem sw_any (s : ByteArray) (i : Nat) (w : World) (hs : s.size ≤ 1048576) (hi : i < s.size) :
    Calls Tryd.prog 17 #[.string s, .int .i64 i] w fun e w' => e = .returned (.int .i64 (headSpace (s.data.toList.drop i) : Nat)) ∧ w = w' := by
  have hl : s.data.toList.length = s.size := (Lib.size_eq s).symm
  have hne : s.data.toList.drop i ≠ [] := by
    intro h0
    have := congrArg List.length h0
    rw [List.length_drop, List.length_nil] at this
    omega
  have e := width_eq _ hne
  rw [List.length_drop, hl] at e
  have g0 : (s.data.toList.drop i).getD 0 0 = s[i] := getD_drop s i 0 hi
  by_cases h1 : i + 1 < s.size
  · have g1 := getD_drop s i 1 h1
    by_cases h2 : i + 2 < s.size
    · have g2 := getD_drop s i 2 h2
      rw [swW_n (by omega), g0, g1, g2] at e
      exact sw3 s i w hs _ _ _ _ h2 rfl rfl rfl e
    · rw [show s.size - i = 2 from by omega, g0, g1] at e
      exact sw2 s i w hs _ _ _ _ h1 h2 rfl rfl e
  · rw [show s.size - i = 1 from by omega, g0] at e
    exact sw1 s i w hs _ _ _ _ hi h1 rfl e
end Go.Proofs.Qxb6602904aDoor
