/-
  Plain facts on the two comparisons: numbers and strings of bytes. Nothing of the program stands here.
-/
import Derived.Lib.Bytealg
import Derived.Lib.Small
namespace Go.Proofs.Qxb6616259a
open Go.Lib

theorem cb_range : ∀ (a b : List UInt8), -1 ≤ compareBytes a b ∧ compareBytes a b ≤ 1
  | [], [] => by simp [compareBytes]
  | [], _ :: _ => by simp [compareBytes]
  | _ :: _, [] => by simp [compareBytes]
  | x :: a, y :: b => by
    unfold compareBytes
    split
    · omega
    · split
      · omega
      · exact cb_range a b

theorem cb_swap : ∀ (a b : List UInt8), compareBytes b a = - compareBytes a b
  | [], [] => by simp [compareBytes]
  | [], _ :: _ => by simp [compareBytes]
  | _ :: _, [] => by simp [compareBytes]
  | x :: a, y :: b => by
    unfold compareBytes
    by_cases h1 : x < y
    · have h2 : ¬ y < x := by simp only [UInt8.lt_iff_toNat_lt] at *; omega
      simp only [h1, h2, if_true, if_false]; rfl
    · by_cases h2 : y < x
      · simp only [h1, h2, if_true, if_false]
      · simp only [h1, h2, if_false]; exact cb_swap a b

theorem cb_step (a b : List UInt8) (k : Nat) (ha : k < a.length) (hb : k < b.length) :
    compareBytes (a.drop k) (b.drop k) = if a[k] < b[k] then -1 else if b[k] < a[k] then 1 else compareBytes (a.drop (k + 1)) (b.drop (k + 1)) := by
  rw [List.drop_eq_getElem_cons ha, List.drop_eq_getElem_cons hb]
  rfl

theorem cb_end (a b : List UInt8) (k : Nat) (h : k = min a.length b.length) :
    compareBytes (a.drop k) (b.drop k) = if a.length < b.length then -1 else if b.length < a.length then 1 else 0 := by
  by_cases h1 : a.length < b.length
  · rw [if_pos h1, List.drop_eq_nil_of_le (by omega), List.drop_eq_getElem_cons (by omega)]
    rfl
  · by_cases h2 : b.length < a.length
    · rw [if_neg h1, if_pos h2, List.drop_eq_nil_of_le (as := b) (by omega), List.drop_eq_getElem_cons (l := a) (by omega)]
      rfl
    · rw [if_neg h1, if_neg h2, List.drop_eq_nil_of_le (by omega), List.drop_eq_nil_of_le (by omega)]
      rfl

theorem ci_range (x y : Int) : -1 ≤ compareInt x y ∧ compareInt x y ≤ 1 := by
  unfold compareInt; (repeat' split) <;> omega

theorem ci_swap (x y : Int) : compareInt y x = - compareInt x y := by
  unfold compareInt; (repeat' split) <;> omega

/-- What the list's compare answers: the key's order c, else the strings' order s. -/
def orElse (c s : Int) : Int := if c = 0 then s else c

theorem orElse_neg (c s : Int) : orElse (-c) (-s) = - orElse c s := by
  unfold orElse; split <;> split <;> omega

end Go.Proofs.Qxb6616259a
