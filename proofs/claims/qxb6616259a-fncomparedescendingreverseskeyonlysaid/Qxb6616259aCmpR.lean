/-
  ZZcompare, and the makers and measures of the laws on compare, by contracts.
-/
import Derived.Test.Qxb6616259aCmpQ
import Derived.Test.Qxb6616259aHasWalks
namespace Go.Proofs.Qxb6616259a
open Go.RowKit

theorem heap3z (w : World) (A B C : Obj) : (((w.alloc A).alloc B).alloc C).heap[w.heap.size]? = some A := by
  rw [Below.heap_alloc _ _ _ (by simp; omega)]; exact heap_alloc2_old w A B

set_option maxHeartbeats 400000 in
theorem cmp17 (q sa sb : Array Value) (desc : Bool) (ta tb : ByteArray) (da db : Int) (w : World) (nq : q.size = 11) (hq6 : q[6]? = some (.func (.func 26) #[] #[])) (hq7 : q[7]? = some (.bool desc))
    (na : sa.size = 10) (nb : sb.size = 10) (ha0 : sa[0]? = some (.string ta)) (hb0 : sb[0]? = some (.string tb)) (ha : sa[7]? = some (.int .i64 da)) (hb : sb[7]? = some (.int .i64 db)) :
    Calls Try.prog 17 #[.agg q, .agg sa, .agg sb] w fun e w' => e = .returned (.int .i64 (orElse (dirC desc (Lib.compareInt da db)) (Lib.compareBytes ta.data.toList tb.data.toList))) ∧ Below w.heap.size w w' := by
  have HC := hid (fun W => cmp28 q sa sb desc ta tb da db W hq6 hq7 na nb ha0 hb0 ha hb)
  have NA := hid na
  have NB := hid nb
  have NQ := hid nq
  clear na nb ha hb nq hq6 hq7 ha0 hb0
  generalize orElse (dirC desc (Lib.compareInt da db)) (Lib.compareBytes ta.data.toList tb.data.toList) = r at *
  go_enter Try.func17, Try.ntmps17
  go_wp2_with (first
      | (go_at_call 28; fail)
      | (refine wpList_load_row rfl 38 (.tmp 3) rfl w.heap.size rfl 38 q (0, 0) _ (by exact heap3z _ _ _ _) Try.underlying38 rfl (by rw [NQ.out]; exact Try.info38) ?_)
      | (refine wpList_load_row rfl 44 (.tmp 4) rfl (w.heap.size + 1) rfl 44 sa (0, 0) _ (by exact heap3a _ _ _ _) Try.underlying44 rfl (by rw [NA.out]; exact Try.info44) ?_)
      | (refine wpList_load_row rfl 44 (.tmp 5) rfl (w.heap.size + 1 + 1) rfl 44 sb (0, 0) _ (by exact heap3b _ _ _ _) Try.underlying44 rfl (by rw [NB.out]; exact Try.info44) ?_))
  refine (HC.out _).mono ?_
  rintro e w' ⟨rfl, hw⟩
  go_wp2_with fail
  go_ret
  refine ⟨rfl, ?_⟩
  exact ((((Below.refl _ _).alloc (Nat.le_refl _) _).alloc (by simp) _).alloc (by simp; omega) _).trans (hw.mono (by simp; omega))

set_option maxHeartbeats 400000 in
theorem summary_w (n : Int) (v : Array Value) (s0 s1 s2 : ByteArray) (a3 a4 : Option Addr) (l3 c3 l4 c4 : Nat) (w : World) (h0 : 0 ≤ n) (h1 : n ≤ 1048577)
    (z0 : s0.size ≤ maxLen) (z1 : s1.size ≤ maxLen) (z2 : s2.size ≤ maxLen) (z3 : l3 ≤ maxLen) (z4 : l4 ≤ maxLen)
    (k0 : v[0]? = some (.string s0)) (k1 : v[1]? = some (.string s1)) (k2 : v[2]? = some (.string s2)) (k3 : v[3]? = some (.slice a3 l3 c3)) (k4 : v[4]? = some (.slice a4 l4 c4)) :
    Calls Try.prog 12 #[.int .i64 n, .agg v] w fun e w' => ∃ r : Int, e = .returned (.int .i64 r) ∧ 0 ≤ r ∧ r ≤ 1048577 ∧ w' = w.alloc (.cells v 25) := by
  unfold maxLen at *
  go_enter Try.func12, Try.ntmps12
  go_wp2_with (go_at_call 22; refine (addLen_w _ _ _ (by omega) (by omega) (by omega) (by omega)).mono ?_; rintro e w' ⟨r, rfl, hr0, hr1, hr2, hw⟩; subst w')
  go_ret
  exact ⟨_, rfl, by omega, by omega, rfl⟩

end Go.Proofs.Qxb6616259a
