/-
  The walks of the callees of the two laws on hasLanguage.
-/
import Derived.Test.Qxb6616259aRows
import Derived.WalkKit
import Derived.WalkSpells
import Derived.WalkLawsBesides
namespace Go.Proofs.Qxb6616259a
open Go.RowKit

def addL (n l : Int) : Int := if 1048576 < n ∨ 1048576 - n < l then 1048577 else n + l

theorem addL_bd (n l : Int) (h0 : 0 ≤ n) (h1 : 0 ≤ l) : 0 ≤ addL n l ∧ addL n l ≤ 1048577 ∧ (addL n l ≤ 1048576 → n ≤ 1048576 ∧ l ≤ 1048576 ∧ addL n l = n + l) := by
  unfold addL; split <;> omega

set_option maxHeartbeats 400000 in
theorem addLen_any (n l : Int) (w : World) (h0 : 0 ≤ n) (h1 : n ≤ 1048577) (h2 : 0 ≤ l) (h3 : l ≤ 9223372036854775807) :
    Calls Try.prog 22 #[.int .i64 n, .int .i64 l] w fun e w' => e = .returned (.int .i64 (addL n l)) ∧ w' = w := by
  by_cases ha : 1048576 < n
  · rw [show addL n l = 1048577 from by unfold addL; rw [if_pos (Or.inl ha)]]
    go_enter Try.func22, Try.ntmps22
    go_wp2
    go_ret
    exact ⟨rfl, rfl⟩
  · by_cases hb : 1048576 - n < l
    · rw [show addL n l = 1048577 from by unfold addL; rw [if_pos (Or.inr hb)]]
      go_enter Try.func22, Try.ntmps22
      go_wp2
      go_ret
      exact ⟨rfl, rfl⟩
    · rw [show addL n l = n + l from by unfold addL; rw [if_neg (by omega)]]
      go_enter Try.func22, Try.ntmps22
      go_wp2
      go_ret
      exact ⟨rfl, rfl⟩

set_option maxHeartbeats 400000 in
theorem has_empty (b o : Nat) (a : Option Addr) (cap : Nat) (w : World) (hc : w.cell? ⟨b, o + 8, none⟩ = some (.slice a 0 cap)) :
    Calls Try.prog 23 #[.pointer (some ⟨b, o, none⟩)] w fun e w' => e = .returned (.bool false) ∧ w' = w := by
  go_enter Try.func23, Try.ntmps23
  go_wp2
  go_ret
  exact ⟨rfl, rfl⟩

set_option maxHeartbeats 400000 in
theorem has_one (b o g k : Nat) (len cap : Nat) (c : Int) (w : World) (hl : 0 < len) (hc : w.cell? ⟨b, o + 8, none⟩ = some (.slice (some ⟨g, k, none⟩) len cap))
    (hb : w.cell? ⟨g, k, none⟩ = some (.int .u8 c)) :
    Calls Try.prog 23 #[.pointer (some ⟨b, o, none⟩)] w fun e w' => e = .returned (.bool (c == 34)) ∧ w' = w := by
  go_enter Try.func23, Try.ntmps23
  go_wp2
  go_ret
  exact ⟨rfl, rfl⟩

/-- The same with the sum left open: it stays within the bound just where both parts do. -/
theorem addLen_w (n l : Int) (w : World) (h0 : 0 ≤ n) (h1 : n ≤ 1048577) (h2 : 0 ≤ l) (h3 : l ≤ 9223372036854775807) :
    Calls Try.prog 22 #[.int .i64 n, .int .i64 l] w fun e w' => ∃ r : Int, e = .returned (.int .i64 r) ∧ 0 ≤ r ∧ r ≤ 1048577 ∧ Hid (r ≤ 1048576 → n ≤ 1048576 ∧ l ≤ 1048576) ∧ w' = w := by
  refine (addLen_any n l w h0 h1 h2 h3).mono ?_
  rintro e w' ⟨rfl, rfl⟩
  have h := addL_bd n l h0 h2
  exact ⟨_, rfl, h.1, h.2.1, fun hr => ⟨(h.2.2 hr).1, (h.2.2 hr).2.1⟩, rfl⟩

set_option maxHeartbeats 1000000 in
theorem spanBytes_w (b o : Nat) (s0 s1 s2 s3 s4 s10 : ByteArray) (a8 a9 a11 : Option Addr) (l8 c8 l9 c9 l11 c11 : Nat) (w : World)
    (z0 : s0.size ≤ maxLen) (z1 : s1.size ≤ maxLen) (z2 : s2.size ≤ maxLen) (z3 : s3.size ≤ maxLen) (z4 : s4.size ≤ maxLen) (z10 : s10.size ≤ maxLen)
    (z8 : l8 ≤ maxLen) (z9 : l9 ≤ maxLen) (z11 : l11 ≤ maxLen)
    (k0 : w.cell? ⟨b, o, none⟩ = some (.string s0)) (k1 : w.cell? ⟨b, o + 1, none⟩ = some (.string s1)) (k2 : w.cell? ⟨b, o + 2, none⟩ = some (.string s2))
    (k3 : w.cell? ⟨b, o + 3, none⟩ = some (.string s3)) (k4 : w.cell? ⟨b, o + 4, none⟩ = some (.string s4)) (k8 : w.cell? ⟨b, o + 8, none⟩ = some (.slice a8 l8 c8))
    (k9 : w.cell? ⟨b, o + 9, none⟩ = some (.slice a9 l9 c9)) (k10 : w.cell? ⟨b, o + 10, none⟩ = some (.string s10)) (k11 : w.cell? ⟨b, o + 11, none⟩ = some (.slice a11 l11 c11)) :
    Calls Try.prog 19 #[.int .i64 0, .pointer (some ⟨b, o, none⟩)] w fun e w' => ∃ r : Int, e = .returned (.int .i64 r) ∧ 0 ≤ r ∧ r ≤ 1048577 ∧ Hid (r ≤ 1048576 → l8 ≤ 1048576) ∧ w' = w := by
  unfold maxLen at *
  by_cases hbig : 43690 < l11
  all_goals
    go_enter Try.func19, Try.ntmps19
    go_wp2_with (go_at_call 22; refine (addLen_w _ _ _ (by omega) (by omega) (by omega) (by omega)).mono ?_; rintro e w' ⟨r, rfl, hr0, hr1, hr2, rfl⟩)
    go_ret
  · exact ⟨_, rfl, by omega, by omega, fun h => by omega, rfl⟩
  · refine ⟨_, rfl, by omega, by omega, fun h => ?_, rfl⟩
    unfold Hid at *
    omega

end Go.Proofs.Qxb6616259a
