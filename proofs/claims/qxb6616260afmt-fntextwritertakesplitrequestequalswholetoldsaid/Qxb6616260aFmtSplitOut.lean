/-
  FnTextWriterTakeSplitRequestEqualsWhole at the inputs that she lets by.
-/
import Derived.Test.Qxb6616260aFmtTake
namespace Go.Proofs.Qxb6616260aFmt
open Go.RowKit Go.Extern.Stop Go.Stop Go.Extern
set_option linter.unusedVariables false

set_option maxHeartbeats 400000 in
theorem f4_out1 (n0 lim a b : Int) (w : World) (h : n0 < 0 ∨ lim < n0) :
    Calls Tryf.prog 4 #[.int .i64 n0, .int .i64 lim, .int .i64 a, .int .i64 b] w fun e w' => e = .returned (.bool true) ∧ Below w.heap.size w w' := by
  by_cases h0 : n0 < 0
  · clear h
    go_enter Tryf.func4, Tryf.ntmps4
    go_wp2
    go_ret
    exact ⟨rfl, Below.refl _ _⟩
  · have h1 : lim < n0 := by omega
    clear h
    go_enter Tryf.func4, Tryf.ntmps4
    go_wp2
    go_ret
    exact ⟨rfl, Below.refl _ _⟩

set_option maxHeartbeats 400000 in
theorem f4_out2 (n0 lim a b : Int) (w : World) (g0 : 0 ≤ n0) (g1 : n0 ≤ lim) (gb : b ≤ 9223372036854775807) (h : a < 0 ∨ b < 0 ∨ (0 ≤ b ∧ 9223372036854775807 - b < a)) :
    Calls Tryf.prog 4 #[.int .i64 n0, .int .i64 lim, .int .i64 a, .int .i64 b] w fun e w' => e = .returned (.bool true) ∧ Below w.heap.size w w' := by
  by_cases h0 : a < 0
  · clear h
    go_enter Tryf.func4, Tryf.ntmps4
    go_wp2
    go_ret
    exact ⟨rfl, Below.refl _ _⟩
  · by_cases h1 : b < 0
    · clear h
      go_enter Tryf.func4, Tryf.ntmps4
      go_wp2
      go_ret
      exact ⟨rfl, Below.refl _ _⟩
    · have h2 : 0 ≤ b := by omega
      have h3 : 9223372036854775807 - b < a := by omega
      clear h
      go_enter Tryf.func4, Tryf.ntmps4
      go_wp2
      go_ret
      exact ⟨rfl, Below.refl _ _⟩

end Go.Proofs.Qxb6616260aFmt
