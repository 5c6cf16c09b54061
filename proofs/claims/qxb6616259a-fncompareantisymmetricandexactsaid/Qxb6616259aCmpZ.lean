/-
  The measures laid by program over the two laws on compare: each answers some bool and writes nothing.
-/
import Derived.Test.Qxb6616259aCopies
namespace Go.Proofs.Qxb6616259a
open Go.RowKit

set_option maxHeartbeats 2000000 in
theorem zz11 (desc : Bool) (av bv : Array Value) (w : World) (sa0 sa1 sa2 : ByteArray) (aa3 aa4 : Option Addr) (la3 ca3 la4 ca4 : Nat)
    (za0 : sa0.size ≤ maxLen) (za1 : sa1.size ≤ maxLen) (za2 : sa2.size ≤ maxLen) (za3 : la3 ≤ maxLen) (za4 : la4 ≤ maxLen)
    (ka0 : av[0]? = some (.string sa0)) (ka1 : av[1]? = some (.string sa1)) (ka2 : av[2]? = some (.string sa2)) (ka3 : av[3]? = some (.slice aa3 la3 ca3)) (ka4 : av[4]? = some (.slice aa4 la4 ca4))
    (sb0 sb1 sb2 : ByteArray) (ab3 ab4 : Option Addr) (lb3 cb3 lb4 cb4 : Nat)
    (zb0 : sb0.size ≤ maxLen) (zb1 : sb1.size ≤ maxLen) (zb2 : sb2.size ≤ maxLen) (zb3 : lb3 ≤ maxLen) (zb4 : lb4 ≤ maxLen)
    (kb0 : bv[0]? = some (.string sb0)) (kb1 : bv[1]? = some (.string sb1)) (kb2 : bv[2]? = some (.string sb2)) (kb3 : bv[3]? = some (.slice ab3 lb3 cb3)) (kb4 : bv[4]? = some (.slice ab4 lb4 cb4)) :
    Calls Try.prog 11 #[.bool desc, .agg av, .agg bv] w fun e w' => ∃ r : Bool, e = .returned (.bool r) ∧ w' = (w.alloc (.cells av 25)).alloc (.cells bv 25) := by
  unfold maxLen at *
  go_enter Try.func11, Try.ntmps11
  go_wp2
  all_goals
    go_ret
    exact ⟨_, rfl, rfl⟩

set_option maxHeartbeats 2000000 in
theorem zz18 (av bv : Array Value) (w : World) (sa0 sa1 sa2 : ByteArray) (aa3 aa4 : Option Addr) (la3 ca3 la4 ca4 : Nat)
    (za0 : sa0.size ≤ maxLen) (za1 : sa1.size ≤ maxLen) (za2 : sa2.size ≤ maxLen) (za3 : la3 ≤ maxLen) (za4 : la4 ≤ maxLen)
    (ka0 : av[0]? = some (.string sa0)) (ka1 : av[1]? = some (.string sa1)) (ka2 : av[2]? = some (.string sa2)) (ka3 : av[3]? = some (.slice aa3 la3 ca3)) (ka4 : av[4]? = some (.slice aa4 la4 ca4))
    (sb0 sb1 sb2 : ByteArray) (ab3 ab4 : Option Addr) (lb3 cb3 lb4 cb4 : Nat)
    (zb0 : sb0.size ≤ maxLen) (zb1 : sb1.size ≤ maxLen) (zb2 : sb2.size ≤ maxLen) (zb3 : lb3 ≤ maxLen) (zb4 : lb4 ≤ maxLen)
    (kb0 : bv[0]? = some (.string sb0)) (kb1 : bv[1]? = some (.string sb1)) (kb2 : bv[2]? = some (.string sb2)) (kb3 : bv[3]? = some (.slice ab3 lb3 cb3)) (kb4 : bv[4]? = some (.slice ab4 lb4 cb4)) :
    Calls Try.prog 18 #[.agg av, .agg bv] w fun e w' => ∃ r : Bool, e = .returned (.bool r) ∧ w' = (w.alloc (.cells av 25)).alloc (.cells bv 25) := by
  unfold maxLen at *
  go_enter Try.func18, Try.ntmps18
  go_wp2
  all_goals
    go_ret
    exact ⟨_, rfl, rfl⟩

end Go.Proofs.Qxb6616259a
