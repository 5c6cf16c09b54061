/-
  ZZcompare by its contract: the key's order (reversed where desc), else the strings' order.
-/
import Derived.Test.Qxb6616259aCmpWalks
import Derived.Test.Qxb6616259aCopies
import Derived.Deep.CutRange
namespace Go.Proofs.Qxb6616259a
open Go.RowKit

theorem Try.info44 : (Try.prog.info? 44).map (·.size) = some 10 := by kernel_rfl
theorem Try.info25 : (Try.prog.info? 25).map (·.size) = some 10 := by kernel_rfl
theorem Try.info38 : (Try.prog.info? 38).map (·.size) = some 11 := by kernel_rfl

set_option maxHeartbeats 400000 in
theorem key_any (sa sb : Array Value) (da db : Int) (w : World) (ha : sa[7]? = some (.int .i64 da)) (hb : sb[7]? = some (.int .i64 db)) :
    Calls Try.prog 26 #[.agg sa, .agg sb] w fun e w' => e = .returned (.int .i64 (Lib.compareInt da db)) ∧ w' = (w.alloc (.cells sa 44)).alloc (.cells sb 44) := by
  go_enter Try.func26, Try.ntmps26
  go_wp2_with (go_at_call 27; refine (cmpInt_any _ _ _).mono ?_; rintro e w' ⟨rfl, hw⟩; subst w')
  go_ret
  exact ⟨rfl, rfl⟩

theorem heap3a (w : World) (A B C : Obj) : (((w.alloc A).alloc B).alloc C).heap[w.heap.size + 1]? = some B := by
  rw [Below.heap_alloc _ _ _ (by simp)]; exact heap_alloc2_new w A B
theorem heap3b (w : World) (A B C : Obj) : (((w.alloc A).alloc B).alloc C).heap[w.heap.size + 1 + 1]? = some C :=
  heap_new_of (by simp) _

/-- The key's order, reversed where desc. -/
def dirC (desc : Bool) (c : Int) : Int := if desc then -c else c

set_option maxHeartbeats 400000 in
theorem cmp28 (q sa sb : Array Value) (desc : Bool) (ta tb : ByteArray) (da db : Int) (w : World) (hq6 : q[6]? = some (.func (.func 26) #[] #[])) (hq7 : q[7]? = some (.bool desc))
    (na : sa.size = 10) (nb : sb.size = 10) (ha0 : sa[0]? = some (.string ta)) (hb0 : sb[0]? = some (.string tb)) (ha : sa[7]? = some (.int .i64 da)) (hb : sb[7]? = some (.int .i64 db)) :
    Calls Try.prog 28 #[.agg q, .agg sa, .agg sb] w fun e w' => e = .returned (.int .i64 (orElse (dirC desc (Lib.compareInt da db)) (Lib.compareBytes ta.data.toList tb.data.toList))) ∧ Below w.heap.size w w' := by
  have HK := hid (fun W => key_any sa sb da db W ha hb)
  have HS := hid (fun W => strCmp_any ta tb W)
  have hr := ci_range da db
  have NA := hid na
  have NB := hid nb
  clear na nb ha hb
  generalize Lib.compareInt da db = c at *
  generalize Lib.compareBytes ta.data.toList tb.data.toList = s at *
  obtain ⟨hr1, hr2⟩ := hr
  cases desc
  · have HD : Hid (dirC false c = c) := rfl
    go_enter Try.func28, Try.ntmps28
    go_wp2_with (first
      | (go_at_call 26; fail)
      | (refine wpList_load_row rfl 44 (.tmp 4) rfl (w.heap.size + 1) rfl 44 sa (0, 0) _ (by exact heap3a _ _ _ _) Try.underlying44 rfl (by rw [NA.out]; exact Try.info44) ?_)
      | (refine wpList_load_row rfl 44 (.tmp 5) rfl (w.heap.size + 1 + 1) rfl 44 sb (0, 0) _ (by exact heap3b _ _ _ _) Try.underlying44 rfl (by rw [NB.out]; exact Try.info44) ?_))
    refine (HK.out _).mono ?_
    rintro e w' ⟨rfl, hw⟩
    subst w'
    go_wp2_with fail
    refine (HS.out _).mono ?_
    rintro e w' ⟨rfl, hw⟩
    subst w'
    go_wp2_with fail
    refine (or_any _ c s _ (by go_simp) (by go_simp)).mono ?_
    rintro e w' ⟨rfl, hw⟩
    subst w'
    go_wp2_with fail
    go_ret
    refine ⟨ret_int (by rw [HD.out]), ?_⟩
    exact ((((((Below.refl _ _).alloc (Nat.le_refl _) _).alloc (by simp) _).alloc (by simp; omega) _).alloc (by simp; omega) _).alloc (by simp; omega) _).alloc (by simp; omega) _
  · have HD : Hid (dirC true c = -c) := rfl
    go_enter Try.func28, Try.ntmps28
    go_wp2_with (first
      | (go_at_call 26; fail)
      | (refine wpList_load_row rfl 44 (.tmp 4) rfl (w.heap.size + 1) rfl 44 sa (0, 0) _ (by exact heap3a _ _ _ _) Try.underlying44 rfl (by rw [NA.out]; exact Try.info44) ?_)
      | (refine wpList_load_row rfl 44 (.tmp 5) rfl (w.heap.size + 1 + 1) rfl 44 sb (0, 0) _ (by exact heap3b _ _ _ _) Try.underlying44 rfl (by rw [NB.out]; exact Try.info44) ?_))
    refine (HK.out _).mono ?_
    rintro e w' ⟨rfl, hw⟩
    subst w'
    go_wp2_with fail
    refine (HS.out _).mono ?_
    rintro e w' ⟨rfl, hw⟩
    subst w'
    go_wp2_with fail
    refine (or_any _ (-c) s _ (by go_simp) (by go_simp)).mono ?_
    rintro e w' ⟨rfl, hw⟩
    subst w'
    go_wp2_with fail
    go_ret
    refine ⟨ret_int (by rw [HD.out]), ?_⟩
    exact ((((((Below.refl _ _).alloc (Nat.le_refl _) _).alloc (by simp) _).alloc (by simp; omega) _).alloc (by simp; omega) _).alloc (by simp; omega) _).alloc (by simp; omega) _

end Go.Proofs.Qxb6616259a
