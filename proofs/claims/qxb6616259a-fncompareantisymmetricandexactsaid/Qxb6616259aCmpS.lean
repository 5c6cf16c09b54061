/-
  The makers of the laws on compare, by contracts.
-/
import Derived.Test.Qxb6616259aCmpQ
namespace Go.Proofs.Qxb6616259a
open Go.RowKit

/-- What ZZnewListQueryByDuration hands back. -/
def listQ (desc : Bool) : Array Value :=
  #[.pointer none, .pointer none, .float .f64 0, .float .f64 0, .int .i64 0, .int .i64 0, .func (.func 26) #[] #[], .bool desc, .int .i64 0, .int .i64 0, .pointer none]

theorem listQ_one (desc : Bool) : (listQ desc).all (·.oneCell') = true := by simp [listQ, Value.oneCell']

set_option maxHeartbeats 400000 in
theorem list15 (desc : Bool) (w : World) :
    Calls Try.prog 15 #[.bool desc] w fun e w' => e = .returned (.agg (listQ desc)) ∧ Below w.heap.size w w' := by
  go_enter Try.func15, Try.ntmps15
  go_wp2_with (refine wpList_store_whole rfl 38 (.tmp 2) (.tmp 4) rfl w.heap.size (listQ desc) _ 38 rfl (by rfl) (by exact heap_new_of rfl _) Try.info38 (by rfl) (listQ_one desc) ?_; intro w1 hrow1 hsz1 hg1)
  refine bodyPost_ret (v := .agg (listQ desc)) (results_cell_row Try.results15 _ w1 w.heap.size 38 (listQ desc) (0, 0) _ rfl hrow1 Try.underlying38 rfl Try.info38) rfl ⟨rfl, ?_⟩
  exact ((Below.refl _ _).alloc (Nat.le_refl _) _).grown hg1 (by simp) (fun k hk => by injection hk with hk; omega)

/-- The ten cells of a summary. -/
def sumA (s0 s1 s2 : ByteArray) (a3 : Option Addr) (l3 c3 : Nat) (a4 : Option Addr) (l4 c4 : Nat) (n5 n6 n7 n8 n9 : Int) : Array Value :=
  #[.string s0, .string s1, .string s2, .slice a3 l3 c3, .slice a4 l4 c4, .int .i64 n5, .int .i64 n6, .int .i64 n7, .int .i64 n8, .int .i64 n9]

theorem sumA_one (s0 s1 s2 : ByteArray) (a3 : Option Addr) (l3 c3 : Nat) (a4 : Option Addr) (l4 c4 : Nat) (n5 n6 n7 n8 n9 : Int) : (sumA s0 s1 s2 a3 l3 c3 a4 l4 c4 n5 n6 n7 n8 n9).all (·.oneCell') = true := by
  simp [sumA, Value.oneCell']

set_option maxHeartbeats 400000 in
theorem summary16 (s0 s1 s2 : ByteArray) (a3 : Option Addr) (l3 c3 : Nat) (a4 : Option Addr) (l4 c4 : Nat) (n5 n6 n7 n8 n9 : Int) (w : World) :
    Calls Try.prog 16 #[.string s0, .string s1, .string s2, .slice a3 l3 c3, .slice a4 l4 c4, .int .i64 n5, .int .i64 n6, .int .i64 n7, .int .i64 n8, .int .i64 n9] w fun e w' => e = .returned (.agg (sumA s0 s1 s2 a3 l3 c3 a4 l4 c4 n5 n6 n7 n8 n9)) ∧ Below w.heap.size w w' := by
  go_enter Try.func16, Try.ntmps16
  go_wp2_with (refine wpList_store_whole rfl 44 (.tmp 20) (.tmp 31) rfl w.heap.size (sumA s0 s1 s2 a3 l3 c3 a4 l4 c4 n5 n6 n7 n8 n9) _ 44 rfl (by rfl) (by exact heap_new_of rfl _) Try.info44 (by rfl) (sumA_one _ _ _ _ _ _ _ _ _ _ _ _ _ _) ?_; intro w1 hrow1 hsz1 hg1)
  refine bodyPost_ret (v := .agg (sumA s0 s1 s2 a3 l3 c3 a4 l4 c4 n5 n6 n7 n8 n9)) (results_cell_row Try.results16 _ w1 w.heap.size 44 _ (0, 0) _ rfl hrow1 Try.underlying44 rfl Try.info44) rfl ⟨rfl, ?_⟩
  exact ((Below.refl _ _).alloc (Nat.le_refl _) _).grown hg1 (by simp) (fun k hk => by injection hk with hk; omega)

end Go.Proofs.Qxb6616259a
