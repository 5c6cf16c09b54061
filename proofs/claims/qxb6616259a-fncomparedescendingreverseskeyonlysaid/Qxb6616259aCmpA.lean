/-
  The walk of FnCompareAntisymmetricAndExact, a theorem a way.
-/
import Derived.Test.Qxb6616259aCmpR
import Derived.Test.Qxb6616259aCmpS
import Derived.Test.Qxb6616259aCmpZ
namespace Go.Proofs.Qxb6616259a
open Go.RowKit
set_option linter.unusedVariables false

/-- The two summaries lie in their two blocks of the call's own; nothing old has turned. -/
structure Two (w W : World) (av bv : Array Value) : Prop where
  a : W.heap[w.heap.size]? = some (.cells av 25 (0, 0))
  b : W.heap[w.heap.size + 1]? = some (.cells bv 25 (0, 0))
  below : Below w.heap.size w W
  size : w.heap.size + 2 ≤ W.heap.size

theorem Two.later {w W W' : World} {av bv : Array Value} (h : Two w W av bv) (hb : Below W.heap.size W W') : Two w W' av bv :=
  ⟨by rw [hb.block _ (by have := h.size; omega)]; exact h.a, by rw [hb.block _ (by have := h.size; omega)]; exact h.b, h.below.trans (hb.mono (by have := h.size; omega)), Nat.le_trans h.size hb.size⟩

theorem Two.start (w : World) (av bv : Array Value) : Two w ((w.alloc (.cells av 25)).alloc (.cells bv 25)) av bv :=
  ⟨heap_alloc2_old w _ _, heap_alloc2_new w _ _, ((Below.refl _ _).alloc (Nat.le_refl _) _).alloc (by simp) _, by simp⟩

theorem Two.cells {w W : World} {av bv : Array Value} (h : Two w W av bv) : (∀ i, W.cell? ⟨w.heap.size, i, none⟩ = av[i]?) ∧ ∀ i, W.cell? ⟨w.heap.size + 1, i, none⟩ = bv[i]? :=
  ⟨fun i => cell_of_row W _ i av 25 _ h.a, fun i => cell_of_row W _ i bv 25 _ h.b⟩

theorem below_drewN (W : World) (n : Nat) : Below W.heap.size W (W.drewN n) := ⟨rfl, rfl, rfl, Nat.le_refl _, fun _ _ => rfl⟩

theorem row_later {W W' : World} {g : Nat} {cs : Array Value} {t : TypeId} (h : W.heap[g]? = some (.cells cs t (0, 0))) (hb : Below W.heap.size W W') : W'.heap[g]? = some (.cells cs t (0, 0)) := by
  rw [hb.block g (Array.getElem?_eq_some_iff.1 h).1]; exact h

theorem row_grown {W W' : World} {g r : Nat} {cs : Array Value} {t : TypeId} (h : W.heap[g]? = some (.cells cs t (0, 0))) (hg : W.grownBy W' (some r)) (hne : g ≠ r) : W'.heap[g]? = some (.cells cs t (0, 0)) := by
  rw [hg.block g (Array.getElem?_eq_some_iff.1 h).1 (fun e => hne (by injection e))]; exact h

theorem below_new {W W' : World} {o : Obj} (hg : (W.alloc o).grownBy W' (some W.heap.size)) : Below W.heap.size W W' :=
  ((Below.refl W.heap.size W).alloc (Nat.le_refl _) o).grown hg (by simp) (fun k hk => by injection hk with hk; omega)

set_option maxHeartbeats 4000000 in
theorem f4_ff (av bv : Array Value) (w : World) (sa0 sa1 sa2 : ByteArray) (aa3 aa4 : Option Addr) (la3 ca3 la4 ca4 : Nat) (ia5 ia6 ia7 ia8 ia9 : Int) (sb0 sb1 sb2 : ByteArray) (ab3 ab4 : Option Addr) (lb3 cb3 lb4 cb4 : Nat) (ib5 ib6 ib7 ib8 ib9 : Int)
    (za0 : sa0.size ≤ maxLen) (za1 : sa1.size ≤ maxLen) (za2 : sa2.size ≤ maxLen) (za3 : la3 ≤ maxLen) (za4 : la4 ≤ maxLen) (zb0 : sb0.size ≤ maxLen) (zb1 : sb1.size ≤ maxLen) (zb2 : sb2.size ≤ maxLen) (zb3 : lb3 ≤ maxLen) (zb4 : lb4 ≤ maxLen)
    (na : av.size = 10) (ka0 : av[0]? = some (.string sa0)) (ka1 : av[1]? = some (.string sa1)) (ka2 : av[2]? = some (.string sa2)) (ka3 : av[3]? = some (.slice aa3 la3 ca3)) (ka4 : av[4]? = some (.slice aa4 la4 ca4)) (ka5 : av[5]? = some (.int .i64 ia5)) (ka6 : av[6]? = some (.int .i64 ia6)) (ka7 : av[7]? = some (.int .i64 ia7)) (ka8 : av[8]? = some (.int .i64 ia8)) (ka9 : av[9]? = some (.int .i64 ia9))
    (nb : bv.size = 10) (kb0 : bv[0]? = some (.string sb0)) (kb1 : bv[1]? = some (.string sb1)) (kb2 : bv[2]? = some (.string sb2)) (kb3 : bv[3]? = some (.slice ab3 lb3 cb3)) (kb4 : bv[4]? = some (.slice ab4 lb4 cb4)) (kb5 : bv[5]? = some (.int .i64 ib5)) (kb6 : bv[6]? = some (.int .i64 ib6)) (kb7 : bv[7]? = some (.int .i64 ib7)) (kb8 : bv[8]? = some (.int .i64 ib8)) (kb9 : bv[9]? = some (.int .i64 ib9))
    (C S : Int) (hC1 : -1 ≤ C) (hC2 : C ≤ 1) (hS1 : -1 ≤ S) (hS2 : S ≤ 1) (hC : (C == 0) = false)
    (HSg : Hid (∀ W, Calls Try.prog 13 #[.int .i64 ia7, .int .i64 ib7] W fun e w' => e = .returned (.int .i64 C) ∧ w' = W))
    (HBy : Hid (∀ W, Calls Try.prog 14 #[.string sa0, .string sb0] W fun e w' => e = .returned (.int .i64 S) ∧ ∃ n, w' = W.drewN n))
    (HR1 : Hid (∀ W, Calls Try.prog 17 #[.agg (listQ false), .agg (sumA sa0 sa1 sa2 aa3 la3 ca3 aa4 la4 ca4 ia5 ia6 ia7 ia8 ia9), .agg (sumA sb0 sb1 sb2 ab3 lb3 cb3 ab4 lb4 cb4 ib5 ib6 ib7 ib8 ib9)] W fun e w' => e = .returned (.int .i64 C) ∧ Below W.heap.size W w'))
    (HR2 : Hid (∀ W, Calls Try.prog 17 #[.agg (listQ false), .agg (sumA sb0 sb1 sb2 ab3 lb3 cb3 ab4 lb4 cb4 ib5 ib6 ib7 ib8 ib9), .agg (sumA sa0 sa1 sa2 aa3 la3 ca3 aa4 la4 ca4 ia5 ia6 ia7 ia8 ia9)] W fun e w' => e = .returned (.int .i64 (-C)) ∧ Below W.heap.size W w')) :
    Calls Try.prog 4 #[.bool false, .agg av, .agg bv] w fun e w' => e = .returned (.bool true) ∧ Below w.heap.size w w' := by
  have NA := hid na
  have NB := hid nb
  clear na nb
  go_enter Try.func4, Try.ntmps4
  go_wp2_with (first
    | (go_at_call 11; fail)
    | (refine wpList_load_row rfl 25 (.tmp 4) rfl w.heap.size rfl 25 av (0, 0) _ (by exact heap_alloc2_old _ _ _) Try.underlying25 rfl (by rw [NA.out]; exact Try.info25) ?_)
    | (refine wpList_load_row rfl 25 (.tmp 5) rfl (w.heap.size + 1) rfl 25 bv (0, 0) _ (by exact heap_alloc2_new _ _ _) Try.underlying25 rfl (by rw [NB.out]; exact Try.info25) ?_))
  refine (zz11 false av bv _ sa0 sa1 sa2 aa3 aa4 la3 ca3 la4 ca4 za0 za1 za2 za3 za4 ka0 ka1 ka2 ka3 ka4 sb0 sb1 sb2 ab3 ab4 lb3 cb3 lb4 cb4 zb0 zb1 zb2 zb3 zb4 kb0 kb1 kb2 kb3 kb4).mono ?_
  rintro e W1 ⟨r, rfl, hW1⟩
  have T1 := hid (show Two w W1 av bv from by rw [hW1]; exact (Two.start w av bv).later (((Below.refl _ _).alloc (Nat.le_refl _) _).alloc (by simp) _))
  clear hW1
  cases r
  · go_wp2_with fail
    go_ret
    exact ⟨rfl, T1.out.below⟩
  · go_wp2_with (first
      | (go_at_call 12; fail)
      | (refine wpList_load_row rfl 25 (.tmp 4) rfl w.heap.size rfl 25 av (0, 0) _ (by exact T1.out.a) Try.underlying25 rfl (by rw [NA.out]; exact Try.info25) ?_))
    refine (summary_w 0 av sa0 sa1 sa2 aa3 aa4 la3 ca3 la4 ca4 W1 (by omega) (by omega) za0 za1 za2 za3 za4 ka0 ka1 ka2 ka3 ka4).mono ?_
    rintro e W2 ⟨r2, rfl, hr0, hr1, hW2⟩
    have T2 := hid (T1.out.later (W' := W2) (by rw [hW2]; exact (Below.refl _ _).alloc (Nat.le_refl _) _))
    clear hW2 T1
    go_wp2_with (first
      | (go_at_call 12; fail)
      | (refine wpList_load_row rfl 25 (.tmp 5) rfl (w.heap.size + 1) rfl 25 bv (0, 0) _ (by exact T2.out.b) Try.underlying25 rfl (by rw [NB.out]; exact Try.info25) ?_))
    refine (summary_w r2 bv sb0 sb1 sb2 ab3 ab4 lb3 cb3 lb4 cb4 W2 (by omega) (by omega) zb0 zb1 zb2 zb3 zb4 kb0 kb1 kb2 kb3 kb4).mono ?_
    rintro e W3 ⟨r3, rfl, hr2, hr3, hW3⟩
    have T3 := hid (T2.out.later (W' := W3) (by rw [hW3]; exact (Below.refl _ _).alloc (Nat.le_refl _) _))
    clear hW3 T2 hr0 hr1
    have hca := T3.out.cells.1
    have hcb := T3.out.cells.2
    go_wp2_with (first
      | (go_at_call 13; refine (HSg.out _).mono ?_; rintro e w' ⟨rfl, hw⟩; subst w')
      | (go_at_call 14; fail)
      | (go_at_call 15; fail))
    · go_ret
      exact ⟨rfl, T3.out.below⟩
    have T4 := T3
    clear T3 hca hcb
    clear HSg HBy hr2 hr3
    refine (list15 false _).mono ?_
    rintro e W5 ⟨rfl, hb5⟩
    have T5 := hid (T4.out.later hb5)
    clear hb5 T4
    go_wp2_with (first
      | (go_at_call 16; fail)
      | (refine wpList_store_whole rfl 38 (.tmp 9) (.tmp 42) rfl W5.heap.size _ _ 38 rfl rfl (heap_new_of rfl _) (by exact Try.info38) (by rfl) (by exact (listQ_one false)) ?_; intro W6 hq6 hsz6 hg6; have T6 := hid (T5.out.later (below_new hg6)); have HQ6 := hid hq6; have z6 : W5.heap.size < W6.heap.size := (by rw [hsz6]; simp); have hca := T6.out.cells.1; have hcb := T6.out.cells.2; clear hq6 hsz6 hg6 T5))
    refine (summary16 sa0 sa1 sa2 aa3 la3 ca3 aa4 la4 ca4 ia5 ia6 ia7 ia8 ia9 W6).mono ?_
    rintro e W7 ⟨rfl, hb7⟩
    have T7 := hid (T6.out.later hb7)
    have HQ7 := hid (row_later HQ6.out hb7)
    have z7 : W6.heap.size ≤ W7.heap.size := hb7.size
    clear hb7 T6 HQ6 hca hcb
    go_wp2_with (first
      | (go_at_call 16; fail)
      | (refine wpList_store_whole rfl 44 (.tmp 10) (.tmp 63) rfl W7.heap.size _ _ 44 rfl rfl (heap_new_of rfl _) (by exact Try.info44) (by rfl) (by exact (sumA_one _ _ _ _ _ _ _ _ _ _ _ _ _ _)) ?_; intro W8 hq8 hsz8 hg8; have T8 := hid (T7.out.later (below_new hg8)); have HQ8 := hid (row_later HQ7.out (below_new hg8)); have HA8 := hid hq8; have z8 : W7.heap.size < W8.heap.size := (by rw [hsz8]; simp); have hca := T8.out.cells.1; have hcb := T8.out.cells.2; clear hq8 hsz8 hg8 T7 HQ7))
    refine (summary16 sb0 sb1 sb2 ab3 lb3 cb3 ab4 lb4 cb4 ib5 ib6 ib7 ib8 ib9 W8).mono ?_
    rintro e W9 ⟨rfl, hb9⟩
    have T9 := hid (T8.out.later hb9)
    have HQ9 := hid (row_later HQ8.out hb9)
    have HA9 := hid (row_later HA8.out hb9)
    clear hb9 T8 HQ8 HA8 hca hcb
    go_wp2_with (first
      | (go_at_call 17; fail)
      | (refine wpList_store_whole rfl 44 (.tmp 11) (.tmp 84) rfl W9.heap.size _ _ 44 rfl rfl (heap_new_of rfl _) (by exact Try.info44) (by rfl) (by exact (sumA_one _ _ _ _ _ _ _ _ _ _ _ _ _ _)) ?_; intro W10 hq10 hsz10 hg10; have T10 := hid (T9.out.later (below_new hg10)); have HQ10 := hid (row_later HQ9.out (below_new hg10)); have HA10 := hid (row_later HA9.out (below_new hg10)); have HB10 := hid hq10; clear hq10 hsz10 hg10 T9 HQ9 HA9)
      | (refine wpList_load_row rfl 38 (.tmp 9) rfl W5.heap.size rfl 38 (listQ false) (0, 0) _ (by exact HQ10.out) Try.underlying38 rfl Try.info38 ?_)
      | (refine wpList_load_row rfl 44 (.tmp 10) rfl W7.heap.size rfl 44 (sumA sa0 sa1 sa2 aa3 la3 ca3 aa4 la4 ca4 ia5 ia6 ia7 ia8 ia9) (0, 0) _ (by exact HA10.out) Try.underlying44 rfl Try.info44 ?_)
      | (refine wpList_load_row rfl 44 (.tmp 11) rfl W9.heap.size rfl 44 (sumA sb0 sb1 sb2 ab3 lb3 cb3 ab4 lb4 cb4 ib5 ib6 ib7 ib8 ib9) (0, 0) _ (by exact HB10.out) Try.underlying44 rfl Try.info44 ?_))
    refine (HR1.out _).mono ?_
    rintro e W11 ⟨rfl, hb11⟩
    have T11 := hid (T10.out.later hb11)
    have HQ11 := hid (row_later HQ10.out hb11)
    have HA11 := hid (row_later HA10.out hb11)
    have HB11 := hid (row_later HB10.out hb11)
    clear hb11 T10 HQ10 HA10 HB10 HR1
    go_wp2_with (first
      | (go_at_call 17; fail)
      | (refine wpList_load_row rfl 38 (.tmp 9) rfl W5.heap.size rfl 38 (listQ false) (0, 0) _ (by exact HQ11.out) Try.underlying38 rfl Try.info38 ?_)
      | (refine wpList_load_row rfl 44 (.tmp 10) rfl W7.heap.size rfl 44 (sumA sa0 sa1 sa2 aa3 la3 ca3 aa4 la4 ca4 ia5 ia6 ia7 ia8 ia9) (0, 0) _ (by exact HA11.out) Try.underlying44 rfl Try.info44 ?_)
      | (refine wpList_load_row rfl 44 (.tmp 11) rfl W9.heap.size rfl 44 (sumA sb0 sb1 sb2 ab3 lb3 cb3 ab4 lb4 cb4 ib5 ib6 ib7 ib8 ib9) (0, 0) _ (by exact HB11.out) Try.underlying44 rfl Try.info44 ?_))
    refine (HR2.out _).mono ?_
    rintro e W12 ⟨rfl, hb12⟩
    have T12 := hid (T11.out.later hb12)
    clear hb12 T11 HQ11 HA11 HB11 HR2
    go_wp2_with fail
    go_ret
    exact ⟨rfl, T12.out.below⟩

set_option maxHeartbeats 4000000 in
theorem f4_f0 (av bv : Array Value) (w : World) (sa0 sa1 sa2 : ByteArray) (aa3 aa4 : Option Addr) (la3 ca3 la4 ca4 : Nat) (ia5 ia6 ia7 ia8 ia9 : Int) (sb0 sb1 sb2 : ByteArray) (ab3 ab4 : Option Addr) (lb3 cb3 lb4 cb4 : Nat) (ib5 ib6 ib7 ib8 ib9 : Int)
    (za0 : sa0.size ≤ maxLen) (za1 : sa1.size ≤ maxLen) (za2 : sa2.size ≤ maxLen) (za3 : la3 ≤ maxLen) (za4 : la4 ≤ maxLen) (zb0 : sb0.size ≤ maxLen) (zb1 : sb1.size ≤ maxLen) (zb2 : sb2.size ≤ maxLen) (zb3 : lb3 ≤ maxLen) (zb4 : lb4 ≤ maxLen)
    (na : av.size = 10) (ka0 : av[0]? = some (.string sa0)) (ka1 : av[1]? = some (.string sa1)) (ka2 : av[2]? = some (.string sa2)) (ka3 : av[3]? = some (.slice aa3 la3 ca3)) (ka4 : av[4]? = some (.slice aa4 la4 ca4)) (ka5 : av[5]? = some (.int .i64 ia5)) (ka6 : av[6]? = some (.int .i64 ia6)) (ka7 : av[7]? = some (.int .i64 ia7)) (ka8 : av[8]? = some (.int .i64 ia8)) (ka9 : av[9]? = some (.int .i64 ia9))
    (nb : bv.size = 10) (kb0 : bv[0]? = some (.string sb0)) (kb1 : bv[1]? = some (.string sb1)) (kb2 : bv[2]? = some (.string sb2)) (kb3 : bv[3]? = some (.slice ab3 lb3 cb3)) (kb4 : bv[4]? = some (.slice ab4 lb4 cb4)) (kb5 : bv[5]? = some (.int .i64 ib5)) (kb6 : bv[6]? = some (.int .i64 ib6)) (kb7 : bv[7]? = some (.int .i64 ib7)) (kb8 : bv[8]? = some (.int .i64 ib8)) (kb9 : bv[9]? = some (.int .i64 ib9))
    (S : Int) (hS1 : -1 ≤ S) (hS2 : S ≤ 1) 
    (HSg : Hid (∀ W, Calls Try.prog 13 #[.int .i64 ia7, .int .i64 ib7] W fun e w' => e = .returned (.int .i64 0) ∧ w' = W))
    (HBy : Hid (∀ W, Calls Try.prog 14 #[.string sa0, .string sb0] W fun e w' => e = .returned (.int .i64 S) ∧ ∃ n, w' = W.drewN n))
    (HR1 : Hid (∀ W, Calls Try.prog 17 #[.agg (listQ false), .agg (sumA sa0 sa1 sa2 aa3 la3 ca3 aa4 la4 ca4 ia5 ia6 ia7 ia8 ia9), .agg (sumA sb0 sb1 sb2 ab3 lb3 cb3 ab4 lb4 cb4 ib5 ib6 ib7 ib8 ib9)] W fun e w' => e = .returned (.int .i64 S) ∧ Below W.heap.size W w'))
    (HR2 : Hid (∀ W, Calls Try.prog 17 #[.agg (listQ false), .agg (sumA sb0 sb1 sb2 ab3 lb3 cb3 ab4 lb4 cb4 ib5 ib6 ib7 ib8 ib9), .agg (sumA sa0 sa1 sa2 aa3 la3 ca3 aa4 la4 ca4 ia5 ia6 ia7 ia8 ia9)] W fun e w' => e = .returned (.int .i64 (-S)) ∧ Below W.heap.size W w')) :
    Calls Try.prog 4 #[.bool false, .agg av, .agg bv] w fun e w' => e = .returned (.bool true) ∧ Below w.heap.size w w' := by
  have NA := hid na
  have NB := hid nb
  clear na nb
  go_enter Try.func4, Try.ntmps4
  go_wp2_with (first
    | (go_at_call 11; fail)
    | (refine wpList_load_row rfl 25 (.tmp 4) rfl w.heap.size rfl 25 av (0, 0) _ (by exact heap_alloc2_old _ _ _) Try.underlying25 rfl (by rw [NA.out]; exact Try.info25) ?_)
    | (refine wpList_load_row rfl 25 (.tmp 5) rfl (w.heap.size + 1) rfl 25 bv (0, 0) _ (by exact heap_alloc2_new _ _ _) Try.underlying25 rfl (by rw [NB.out]; exact Try.info25) ?_))
  refine (zz11 false av bv _ sa0 sa1 sa2 aa3 aa4 la3 ca3 la4 ca4 za0 za1 za2 za3 za4 ka0 ka1 ka2 ka3 ka4 sb0 sb1 sb2 ab3 ab4 lb3 cb3 lb4 cb4 zb0 zb1 zb2 zb3 zb4 kb0 kb1 kb2 kb3 kb4).mono ?_
  rintro e W1 ⟨r, rfl, hW1⟩
  have T1 := hid (show Two w W1 av bv from by rw [hW1]; exact (Two.start w av bv).later (((Below.refl _ _).alloc (Nat.le_refl _) _).alloc (by simp) _))
  clear hW1
  cases r
  · go_wp2_with fail
    go_ret
    exact ⟨rfl, T1.out.below⟩
  · go_wp2_with (first
      | (go_at_call 12; fail)
      | (refine wpList_load_row rfl 25 (.tmp 4) rfl w.heap.size rfl 25 av (0, 0) _ (by exact T1.out.a) Try.underlying25 rfl (by rw [NA.out]; exact Try.info25) ?_))
    refine (summary_w 0 av sa0 sa1 sa2 aa3 aa4 la3 ca3 la4 ca4 W1 (by omega) (by omega) za0 za1 za2 za3 za4 ka0 ka1 ka2 ka3 ka4).mono ?_
    rintro e W2 ⟨r2, rfl, hr0, hr1, hW2⟩
    have T2 := hid (T1.out.later (W' := W2) (by rw [hW2]; exact (Below.refl _ _).alloc (Nat.le_refl _) _))
    clear hW2 T1
    go_wp2_with (first
      | (go_at_call 12; fail)
      | (refine wpList_load_row rfl 25 (.tmp 5) rfl (w.heap.size + 1) rfl 25 bv (0, 0) _ (by exact T2.out.b) Try.underlying25 rfl (by rw [NB.out]; exact Try.info25) ?_))
    refine (summary_w r2 bv sb0 sb1 sb2 ab3 ab4 lb3 cb3 lb4 cb4 W2 (by omega) (by omega) zb0 zb1 zb2 zb3 zb4 kb0 kb1 kb2 kb3 kb4).mono ?_
    rintro e W3 ⟨r3, rfl, hr2, hr3, hW3⟩
    have T3 := hid (T2.out.later (W' := W3) (by rw [hW3]; exact (Below.refl _ _).alloc (Nat.le_refl _) _))
    clear hW3 T2 hr0 hr1
    have hca := T3.out.cells.1
    have hcb := T3.out.cells.2
    go_wp2_with (first
      | (go_at_call 13; refine (HSg.out _).mono ?_; rintro e w' ⟨rfl, hw⟩; subst w')
      | (go_at_call 14; fail)
      | (go_at_call 15; fail))
    · go_ret
      exact ⟨rfl, T3.out.below⟩
    refine (HBy.out _).mono ?_
    rintro e W4 ⟨rfl, n4, hW4⟩
    have T4 := hid (T3.out.later (W' := W4) (by rw [hW4]; exact below_drewN _ _))
    clear hW4 T3 hca hcb
    go_wp2_with (go_at_call 15; fail)
    clear HSg HBy hr2 hr3
    refine (list15 false _).mono ?_
    rintro e W5 ⟨rfl, hb5⟩
    have T5 := hid (T4.out.later hb5)
    clear hb5 T4
    go_wp2_with (first
      | (go_at_call 16; fail)
      | (refine wpList_store_whole rfl 38 (.tmp 9) (.tmp 42) rfl W5.heap.size _ _ 38 rfl rfl (heap_new_of rfl _) (by exact Try.info38) (by rfl) (by exact (listQ_one false)) ?_; intro W6 hq6 hsz6 hg6; have T6 := hid (T5.out.later (below_new hg6)); have HQ6 := hid hq6; have z6 : W5.heap.size < W6.heap.size := (by rw [hsz6]; simp); have hca := T6.out.cells.1; have hcb := T6.out.cells.2; clear hq6 hsz6 hg6 T5))
    refine (summary16 sa0 sa1 sa2 aa3 la3 ca3 aa4 la4 ca4 ia5 ia6 ia7 ia8 ia9 W6).mono ?_
    rintro e W7 ⟨rfl, hb7⟩
    have T7 := hid (T6.out.later hb7)
    have HQ7 := hid (row_later HQ6.out hb7)
    have z7 : W6.heap.size ≤ W7.heap.size := hb7.size
    clear hb7 T6 HQ6 hca hcb
    go_wp2_with (first
      | (go_at_call 16; fail)
      | (refine wpList_store_whole rfl 44 (.tmp 10) (.tmp 63) rfl W7.heap.size _ _ 44 rfl rfl (heap_new_of rfl _) (by exact Try.info44) (by rfl) (by exact (sumA_one _ _ _ _ _ _ _ _ _ _ _ _ _ _)) ?_; intro W8 hq8 hsz8 hg8; have T8 := hid (T7.out.later (below_new hg8)); have HQ8 := hid (row_later HQ7.out (below_new hg8)); have HA8 := hid hq8; have z8 : W7.heap.size < W8.heap.size := (by rw [hsz8]; simp); have hca := T8.out.cells.1; have hcb := T8.out.cells.2; clear hq8 hsz8 hg8 T7 HQ7))
    refine (summary16 sb0 sb1 sb2 ab3 lb3 cb3 ab4 lb4 cb4 ib5 ib6 ib7 ib8 ib9 W8).mono ?_
    rintro e W9 ⟨rfl, hb9⟩
    have T9 := hid (T8.out.later hb9)
    have HQ9 := hid (row_later HQ8.out hb9)
    have HA9 := hid (row_later HA8.out hb9)
    clear hb9 T8 HQ8 HA8 hca hcb
    go_wp2_with (first
      | (go_at_call 17; fail)
      | (refine wpList_store_whole rfl 44 (.tmp 11) (.tmp 84) rfl W9.heap.size _ _ 44 rfl rfl (heap_new_of rfl _) (by exact Try.info44) (by rfl) (by exact (sumA_one _ _ _ _ _ _ _ _ _ _ _ _ _ _)) ?_; intro W10 hq10 hsz10 hg10; have T10 := hid (T9.out.later (below_new hg10)); have HQ10 := hid (row_later HQ9.out (below_new hg10)); have HA10 := hid (row_later HA9.out (below_new hg10)); have HB10 := hid hq10; clear hq10 hsz10 hg10 T9 HQ9 HA9)
      | (refine wpList_load_row rfl 38 (.tmp 9) rfl W5.heap.size rfl 38 (listQ false) (0, 0) _ (by exact HQ10.out) Try.underlying38 rfl Try.info38 ?_)
      | (refine wpList_load_row rfl 44 (.tmp 10) rfl W7.heap.size rfl 44 (sumA sa0 sa1 sa2 aa3 la3 ca3 aa4 la4 ca4 ia5 ia6 ia7 ia8 ia9) (0, 0) _ (by exact HA10.out) Try.underlying44 rfl Try.info44 ?_)
      | (refine wpList_load_row rfl 44 (.tmp 11) rfl W9.heap.size rfl 44 (sumA sb0 sb1 sb2 ab3 lb3 cb3 ab4 lb4 cb4 ib5 ib6 ib7 ib8 ib9) (0, 0) _ (by exact HB10.out) Try.underlying44 rfl Try.info44 ?_))
    refine (HR1.out _).mono ?_
    rintro e W11 ⟨rfl, hb11⟩
    have T11 := hid (T10.out.later hb11)
    have HQ11 := hid (row_later HQ10.out hb11)
    have HA11 := hid (row_later HA10.out hb11)
    have HB11 := hid (row_later HB10.out hb11)
    clear hb11 T10 HQ10 HA10 HB10 HR1
    go_wp2_with (first
      | (go_at_call 17; fail)
      | (refine wpList_load_row rfl 38 (.tmp 9) rfl W5.heap.size rfl 38 (listQ false) (0, 0) _ (by exact HQ11.out) Try.underlying38 rfl Try.info38 ?_)
      | (refine wpList_load_row rfl 44 (.tmp 10) rfl W7.heap.size rfl 44 (sumA sa0 sa1 sa2 aa3 la3 ca3 aa4 la4 ca4 ia5 ia6 ia7 ia8 ia9) (0, 0) _ (by exact HA11.out) Try.underlying44 rfl Try.info44 ?_)
      | (refine wpList_load_row rfl 44 (.tmp 11) rfl W9.heap.size rfl 44 (sumA sb0 sb1 sb2 ab3 lb3 cb3 ab4 lb4 cb4 ib5 ib6 ib7 ib8 ib9) (0, 0) _ (by exact HB11.out) Try.underlying44 rfl Try.info44 ?_))
    refine (HR2.out _).mono ?_
    rintro e W12 ⟨rfl, hb12⟩
    have T12 := hid (T11.out.later hb12)
    clear hb12 T11 HQ11 HA11 HB11 HR2
    go_wp2_with fail
    go_ret
    exact ⟨rfl, T12.out.below⟩

set_option maxHeartbeats 4000000 in
theorem f4_tt (av bv : Array Value) (w : World) (sa0 sa1 sa2 : ByteArray) (aa3 aa4 : Option Addr) (la3 ca3 la4 ca4 : Nat) (ia5 ia6 ia7 ia8 ia9 : Int) (sb0 sb1 sb2 : ByteArray) (ab3 ab4 : Option Addr) (lb3 cb3 lb4 cb4 : Nat) (ib5 ib6 ib7 ib8 ib9 : Int)
    (za0 : sa0.size ≤ maxLen) (za1 : sa1.size ≤ maxLen) (za2 : sa2.size ≤ maxLen) (za3 : la3 ≤ maxLen) (za4 : la4 ≤ maxLen) (zb0 : sb0.size ≤ maxLen) (zb1 : sb1.size ≤ maxLen) (zb2 : sb2.size ≤ maxLen) (zb3 : lb3 ≤ maxLen) (zb4 : lb4 ≤ maxLen)
    (na : av.size = 10) (ka0 : av[0]? = some (.string sa0)) (ka1 : av[1]? = some (.string sa1)) (ka2 : av[2]? = some (.string sa2)) (ka3 : av[3]? = some (.slice aa3 la3 ca3)) (ka4 : av[4]? = some (.slice aa4 la4 ca4)) (ka5 : av[5]? = some (.int .i64 ia5)) (ka6 : av[6]? = some (.int .i64 ia6)) (ka7 : av[7]? = some (.int .i64 ia7)) (ka8 : av[8]? = some (.int .i64 ia8)) (ka9 : av[9]? = some (.int .i64 ia9))
    (nb : bv.size = 10) (kb0 : bv[0]? = some (.string sb0)) (kb1 : bv[1]? = some (.string sb1)) (kb2 : bv[2]? = some (.string sb2)) (kb3 : bv[3]? = some (.slice ab3 lb3 cb3)) (kb4 : bv[4]? = some (.slice ab4 lb4 cb4)) (kb5 : bv[5]? = some (.int .i64 ib5)) (kb6 : bv[6]? = some (.int .i64 ib6)) (kb7 : bv[7]? = some (.int .i64 ib7)) (kb8 : bv[8]? = some (.int .i64 ib8)) (kb9 : bv[9]? = some (.int .i64 ib9))
    (C S : Int) (hC1 : -1 ≤ C) (hC2 : C ≤ 1) (hS1 : -1 ≤ S) (hS2 : S ≤ 1) (hC : (-C == 0) = false)
    (HSg : Hid (∀ W, Calls Try.prog 13 #[.int .i64 ia7, .int .i64 ib7] W fun e w' => e = .returned (.int .i64 C) ∧ w' = W))
    (HBy : Hid (∀ W, Calls Try.prog 14 #[.string sa0, .string sb0] W fun e w' => e = .returned (.int .i64 S) ∧ ∃ n, w' = W.drewN n))
    (HR1 : Hid (∀ W, Calls Try.prog 17 #[.agg (listQ true), .agg (sumA sa0 sa1 sa2 aa3 la3 ca3 aa4 la4 ca4 ia5 ia6 ia7 ia8 ia9), .agg (sumA sb0 sb1 sb2 ab3 lb3 cb3 ab4 lb4 cb4 ib5 ib6 ib7 ib8 ib9)] W fun e w' => e = .returned (.int .i64 (-C)) ∧ Below W.heap.size W w'))
    (HR2 : Hid (∀ W, Calls Try.prog 17 #[.agg (listQ true), .agg (sumA sb0 sb1 sb2 ab3 lb3 cb3 ab4 lb4 cb4 ib5 ib6 ib7 ib8 ib9), .agg (sumA sa0 sa1 sa2 aa3 la3 ca3 aa4 la4 ca4 ia5 ia6 ia7 ia8 ia9)] W fun e w' => e = .returned (.int .i64 C) ∧ Below W.heap.size W w')) :
    Calls Try.prog 4 #[.bool true, .agg av, .agg bv] w fun e w' => e = .returned (.bool true) ∧ Below w.heap.size w w' := by
  have NA := hid na
  have NB := hid nb
  clear na nb
  go_enter Try.func4, Try.ntmps4
  go_wp2_with (first
    | (go_at_call 11; fail)
    | (refine wpList_load_row rfl 25 (.tmp 4) rfl w.heap.size rfl 25 av (0, 0) _ (by exact heap_alloc2_old _ _ _) Try.underlying25 rfl (by rw [NA.out]; exact Try.info25) ?_)
    | (refine wpList_load_row rfl 25 (.tmp 5) rfl (w.heap.size + 1) rfl 25 bv (0, 0) _ (by exact heap_alloc2_new _ _ _) Try.underlying25 rfl (by rw [NB.out]; exact Try.info25) ?_))
  refine (zz11 true av bv _ sa0 sa1 sa2 aa3 aa4 la3 ca3 la4 ca4 za0 za1 za2 za3 za4 ka0 ka1 ka2 ka3 ka4 sb0 sb1 sb2 ab3 ab4 lb3 cb3 lb4 cb4 zb0 zb1 zb2 zb3 zb4 kb0 kb1 kb2 kb3 kb4).mono ?_
  rintro e W1 ⟨r, rfl, hW1⟩
  have T1 := hid (show Two w W1 av bv from by rw [hW1]; exact (Two.start w av bv).later (((Below.refl _ _).alloc (Nat.le_refl _) _).alloc (by simp) _))
  clear hW1
  cases r
  · go_wp2_with fail
    go_ret
    exact ⟨rfl, T1.out.below⟩
  · go_wp2_with (first
      | (go_at_call 12; fail)
      | (refine wpList_load_row rfl 25 (.tmp 4) rfl w.heap.size rfl 25 av (0, 0) _ (by exact T1.out.a) Try.underlying25 rfl (by rw [NA.out]; exact Try.info25) ?_))
    refine (summary_w 0 av sa0 sa1 sa2 aa3 aa4 la3 ca3 la4 ca4 W1 (by omega) (by omega) za0 za1 za2 za3 za4 ka0 ka1 ka2 ka3 ka4).mono ?_
    rintro e W2 ⟨r2, rfl, hr0, hr1, hW2⟩
    have T2 := hid (T1.out.later (W' := W2) (by rw [hW2]; exact (Below.refl _ _).alloc (Nat.le_refl _) _))
    clear hW2 T1
    go_wp2_with (first
      | (go_at_call 12; fail)
      | (refine wpList_load_row rfl 25 (.tmp 5) rfl (w.heap.size + 1) rfl 25 bv (0, 0) _ (by exact T2.out.b) Try.underlying25 rfl (by rw [NB.out]; exact Try.info25) ?_))
    refine (summary_w r2 bv sb0 sb1 sb2 ab3 ab4 lb3 cb3 lb4 cb4 W2 (by omega) (by omega) zb0 zb1 zb2 zb3 zb4 kb0 kb1 kb2 kb3 kb4).mono ?_
    rintro e W3 ⟨r3, rfl, hr2, hr3, hW3⟩
    have T3 := hid (T2.out.later (W' := W3) (by rw [hW3]; exact (Below.refl _ _).alloc (Nat.le_refl _) _))
    clear hW3 T2 hr0 hr1
    have hca := T3.out.cells.1
    have hcb := T3.out.cells.2
    go_wp2_with (first
      | (go_at_call 13; refine (HSg.out _).mono ?_; rintro e w' ⟨rfl, hw⟩; subst w')
      | (go_at_call 14; fail)
      | (go_at_call 15; fail))
    · go_ret
      exact ⟨rfl, T3.out.below⟩
    have T4 := T3
    clear T3 hca hcb
    clear HSg HBy hr2 hr3
    refine (list15 true _).mono ?_
    rintro e W5 ⟨rfl, hb5⟩
    have T5 := hid (T4.out.later hb5)
    clear hb5 T4
    go_wp2_with (first
      | (go_at_call 16; fail)
      | (refine wpList_store_whole rfl 38 (.tmp 9) (.tmp 42) rfl W5.heap.size _ _ 38 rfl rfl (heap_new_of rfl _) (by exact Try.info38) (by rfl) (by exact (listQ_one true)) ?_; intro W6 hq6 hsz6 hg6; have T6 := hid (T5.out.later (below_new hg6)); have HQ6 := hid hq6; have z6 : W5.heap.size < W6.heap.size := (by rw [hsz6]; simp); have hca := T6.out.cells.1; have hcb := T6.out.cells.2; clear hq6 hsz6 hg6 T5))
    refine (summary16 sa0 sa1 sa2 aa3 la3 ca3 aa4 la4 ca4 ia5 ia6 ia7 ia8 ia9 W6).mono ?_
    rintro e W7 ⟨rfl, hb7⟩
    have T7 := hid (T6.out.later hb7)
    have HQ7 := hid (row_later HQ6.out hb7)
    have z7 : W6.heap.size ≤ W7.heap.size := hb7.size
    clear hb7 T6 HQ6 hca hcb
    go_wp2_with (first
      | (go_at_call 16; fail)
      | (refine wpList_store_whole rfl 44 (.tmp 10) (.tmp 63) rfl W7.heap.size _ _ 44 rfl rfl (heap_new_of rfl _) (by exact Try.info44) (by rfl) (by exact (sumA_one _ _ _ _ _ _ _ _ _ _ _ _ _ _)) ?_; intro W8 hq8 hsz8 hg8; have T8 := hid (T7.out.later (below_new hg8)); have HQ8 := hid (row_later HQ7.out (below_new hg8)); have HA8 := hid hq8; have z8 : W7.heap.size < W8.heap.size := (by rw [hsz8]; simp); have hca := T8.out.cells.1; have hcb := T8.out.cells.2; clear hq8 hsz8 hg8 T7 HQ7))
    refine (summary16 sb0 sb1 sb2 ab3 lb3 cb3 ab4 lb4 cb4 ib5 ib6 ib7 ib8 ib9 W8).mono ?_
    rintro e W9 ⟨rfl, hb9⟩
    have T9 := hid (T8.out.later hb9)
    have HQ9 := hid (row_later HQ8.out hb9)
    have HA9 := hid (row_later HA8.out hb9)
    clear hb9 T8 HQ8 HA8 hca hcb
    go_wp2_with (first
      | (go_at_call 17; fail)
      | (refine wpList_store_whole rfl 44 (.tmp 11) (.tmp 84) rfl W9.heap.size _ _ 44 rfl rfl (heap_new_of rfl _) (by exact Try.info44) (by rfl) (by exact (sumA_one _ _ _ _ _ _ _ _ _ _ _ _ _ _)) ?_; intro W10 hq10 hsz10 hg10; have T10 := hid (T9.out.later (below_new hg10)); have HQ10 := hid (row_later HQ9.out (below_new hg10)); have HA10 := hid (row_later HA9.out (below_new hg10)); have HB10 := hid hq10; clear hq10 hsz10 hg10 T9 HQ9 HA9)
      | (refine wpList_load_row rfl 38 (.tmp 9) rfl W5.heap.size rfl 38 (listQ true) (0, 0) _ (by exact HQ10.out) Try.underlying38 rfl Try.info38 ?_)
      | (refine wpList_load_row rfl 44 (.tmp 10) rfl W7.heap.size rfl 44 (sumA sa0 sa1 sa2 aa3 la3 ca3 aa4 la4 ca4 ia5 ia6 ia7 ia8 ia9) (0, 0) _ (by exact HA10.out) Try.underlying44 rfl Try.info44 ?_)
      | (refine wpList_load_row rfl 44 (.tmp 11) rfl W9.heap.size rfl 44 (sumA sb0 sb1 sb2 ab3 lb3 cb3 ab4 lb4 cb4 ib5 ib6 ib7 ib8 ib9) (0, 0) _ (by exact HB10.out) Try.underlying44 rfl Try.info44 ?_))
    refine (HR1.out _).mono ?_
    rintro e W11 ⟨rfl, hb11⟩
    have T11 := hid (T10.out.later hb11)
    have HQ11 := hid (row_later HQ10.out hb11)
    have HA11 := hid (row_later HA10.out hb11)
    have HB11 := hid (row_later HB10.out hb11)
    clear hb11 T10 HQ10 HA10 HB10 HR1
    go_wp2_with (first
      | (go_at_call 17; fail)
      | (refine wpList_load_row rfl 38 (.tmp 9) rfl W5.heap.size rfl 38 (listQ true) (0, 0) _ (by exact HQ11.out) Try.underlying38 rfl Try.info38 ?_)
      | (refine wpList_load_row rfl 44 (.tmp 10) rfl W7.heap.size rfl 44 (sumA sa0 sa1 sa2 aa3 la3 ca3 aa4 la4 ca4 ia5 ia6 ia7 ia8 ia9) (0, 0) _ (by exact HA11.out) Try.underlying44 rfl Try.info44 ?_)
      | (refine wpList_load_row rfl 44 (.tmp 11) rfl W9.heap.size rfl 44 (sumA sb0 sb1 sb2 ab3 lb3 cb3 ab4 lb4 cb4 ib5 ib6 ib7 ib8 ib9) (0, 0) _ (by exact HB11.out) Try.underlying44 rfl Try.info44 ?_))
    refine (HR2.out _).mono ?_
    rintro e W12 ⟨rfl, hb12⟩
    have T12 := hid (T11.out.later hb12)
    clear hb12 T11 HQ11 HA11 HB11 HR2
    go_wp2_with fail
    go_ret
    exact ⟨rfl, T12.out.below⟩

set_option maxHeartbeats 4000000 in
theorem f4_t0 (av bv : Array Value) (w : World) (sa0 sa1 sa2 : ByteArray) (aa3 aa4 : Option Addr) (la3 ca3 la4 ca4 : Nat) (ia5 ia6 ia7 ia8 ia9 : Int) (sb0 sb1 sb2 : ByteArray) (ab3 ab4 : Option Addr) (lb3 cb3 lb4 cb4 : Nat) (ib5 ib6 ib7 ib8 ib9 : Int)
    (za0 : sa0.size ≤ maxLen) (za1 : sa1.size ≤ maxLen) (za2 : sa2.size ≤ maxLen) (za3 : la3 ≤ maxLen) (za4 : la4 ≤ maxLen) (zb0 : sb0.size ≤ maxLen) (zb1 : sb1.size ≤ maxLen) (zb2 : sb2.size ≤ maxLen) (zb3 : lb3 ≤ maxLen) (zb4 : lb4 ≤ maxLen)
    (na : av.size = 10) (ka0 : av[0]? = some (.string sa0)) (ka1 : av[1]? = some (.string sa1)) (ka2 : av[2]? = some (.string sa2)) (ka3 : av[3]? = some (.slice aa3 la3 ca3)) (ka4 : av[4]? = some (.slice aa4 la4 ca4)) (ka5 : av[5]? = some (.int .i64 ia5)) (ka6 : av[6]? = some (.int .i64 ia6)) (ka7 : av[7]? = some (.int .i64 ia7)) (ka8 : av[8]? = some (.int .i64 ia8)) (ka9 : av[9]? = some (.int .i64 ia9))
    (nb : bv.size = 10) (kb0 : bv[0]? = some (.string sb0)) (kb1 : bv[1]? = some (.string sb1)) (kb2 : bv[2]? = some (.string sb2)) (kb3 : bv[3]? = some (.slice ab3 lb3 cb3)) (kb4 : bv[4]? = some (.slice ab4 lb4 cb4)) (kb5 : bv[5]? = some (.int .i64 ib5)) (kb6 : bv[6]? = some (.int .i64 ib6)) (kb7 : bv[7]? = some (.int .i64 ib7)) (kb8 : bv[8]? = some (.int .i64 ib8)) (kb9 : bv[9]? = some (.int .i64 ib9))
    (S : Int) (hS1 : -1 ≤ S) (hS2 : S ≤ 1) 
    (HSg : Hid (∀ W, Calls Try.prog 13 #[.int .i64 ia7, .int .i64 ib7] W fun e w' => e = .returned (.int .i64 0) ∧ w' = W))
    (HBy : Hid (∀ W, Calls Try.prog 14 #[.string sa0, .string sb0] W fun e w' => e = .returned (.int .i64 S) ∧ ∃ n, w' = W.drewN n))
    (HR1 : Hid (∀ W, Calls Try.prog 17 #[.agg (listQ true), .agg (sumA sa0 sa1 sa2 aa3 la3 ca3 aa4 la4 ca4 ia5 ia6 ia7 ia8 ia9), .agg (sumA sb0 sb1 sb2 ab3 lb3 cb3 ab4 lb4 cb4 ib5 ib6 ib7 ib8 ib9)] W fun e w' => e = .returned (.int .i64 S) ∧ Below W.heap.size W w'))
    (HR2 : Hid (∀ W, Calls Try.prog 17 #[.agg (listQ true), .agg (sumA sb0 sb1 sb2 ab3 lb3 cb3 ab4 lb4 cb4 ib5 ib6 ib7 ib8 ib9), .agg (sumA sa0 sa1 sa2 aa3 la3 ca3 aa4 la4 ca4 ia5 ia6 ia7 ia8 ia9)] W fun e w' => e = .returned (.int .i64 (-S)) ∧ Below W.heap.size W w')) :
    Calls Try.prog 4 #[.bool true, .agg av, .agg bv] w fun e w' => e = .returned (.bool true) ∧ Below w.heap.size w w' := by
  have NA := hid na
  have NB := hid nb
  clear na nb
  go_enter Try.func4, Try.ntmps4
  go_wp2_with (first
    | (go_at_call 11; fail)
    | (refine wpList_load_row rfl 25 (.tmp 4) rfl w.heap.size rfl 25 av (0, 0) _ (by exact heap_alloc2_old _ _ _) Try.underlying25 rfl (by rw [NA.out]; exact Try.info25) ?_)
    | (refine wpList_load_row rfl 25 (.tmp 5) rfl (w.heap.size + 1) rfl 25 bv (0, 0) _ (by exact heap_alloc2_new _ _ _) Try.underlying25 rfl (by rw [NB.out]; exact Try.info25) ?_))
  refine (zz11 true av bv _ sa0 sa1 sa2 aa3 aa4 la3 ca3 la4 ca4 za0 za1 za2 za3 za4 ka0 ka1 ka2 ka3 ka4 sb0 sb1 sb2 ab3 ab4 lb3 cb3 lb4 cb4 zb0 zb1 zb2 zb3 zb4 kb0 kb1 kb2 kb3 kb4).mono ?_
  rintro e W1 ⟨r, rfl, hW1⟩
  have T1 := hid (show Two w W1 av bv from by rw [hW1]; exact (Two.start w av bv).later (((Below.refl _ _).alloc (Nat.le_refl _) _).alloc (by simp) _))
  clear hW1
  cases r
  · go_wp2_with fail
    go_ret
    exact ⟨rfl, T1.out.below⟩
  · go_wp2_with (first
      | (go_at_call 12; fail)
      | (refine wpList_load_row rfl 25 (.tmp 4) rfl w.heap.size rfl 25 av (0, 0) _ (by exact T1.out.a) Try.underlying25 rfl (by rw [NA.out]; exact Try.info25) ?_))
    refine (summary_w 0 av sa0 sa1 sa2 aa3 aa4 la3 ca3 la4 ca4 W1 (by omega) (by omega) za0 za1 za2 za3 za4 ka0 ka1 ka2 ka3 ka4).mono ?_
    rintro e W2 ⟨r2, rfl, hr0, hr1, hW2⟩
    have T2 := hid (T1.out.later (W' := W2) (by rw [hW2]; exact (Below.refl _ _).alloc (Nat.le_refl _) _))
    clear hW2 T1
    go_wp2_with (first
      | (go_at_call 12; fail)
      | (refine wpList_load_row rfl 25 (.tmp 5) rfl (w.heap.size + 1) rfl 25 bv (0, 0) _ (by exact T2.out.b) Try.underlying25 rfl (by rw [NB.out]; exact Try.info25) ?_))
    refine (summary_w r2 bv sb0 sb1 sb2 ab3 ab4 lb3 cb3 lb4 cb4 W2 (by omega) (by omega) zb0 zb1 zb2 zb3 zb4 kb0 kb1 kb2 kb3 kb4).mono ?_
    rintro e W3 ⟨r3, rfl, hr2, hr3, hW3⟩
    have T3 := hid (T2.out.later (W' := W3) (by rw [hW3]; exact (Below.refl _ _).alloc (Nat.le_refl _) _))
    clear hW3 T2 hr0 hr1
    have hca := T3.out.cells.1
    have hcb := T3.out.cells.2
    go_wp2_with (first
      | (go_at_call 13; refine (HSg.out _).mono ?_; rintro e w' ⟨rfl, hw⟩; subst w')
      | (go_at_call 14; fail)
      | (go_at_call 15; fail))
    · go_ret
      exact ⟨rfl, T3.out.below⟩
    refine (HBy.out _).mono ?_
    rintro e W4 ⟨rfl, n4, hW4⟩
    have T4 := hid (T3.out.later (W' := W4) (by rw [hW4]; exact below_drewN _ _))
    clear hW4 T3 hca hcb
    go_wp2_with (go_at_call 15; fail)
    clear HSg HBy hr2 hr3
    refine (list15 true _).mono ?_
    rintro e W5 ⟨rfl, hb5⟩
    have T5 := hid (T4.out.later hb5)
    clear hb5 T4
    go_wp2_with (first
      | (go_at_call 16; fail)
      | (refine wpList_store_whole rfl 38 (.tmp 9) (.tmp 42) rfl W5.heap.size _ _ 38 rfl rfl (heap_new_of rfl _) (by exact Try.info38) (by rfl) (by exact (listQ_one true)) ?_; intro W6 hq6 hsz6 hg6; have T6 := hid (T5.out.later (below_new hg6)); have HQ6 := hid hq6; have z6 : W5.heap.size < W6.heap.size := (by rw [hsz6]; simp); have hca := T6.out.cells.1; have hcb := T6.out.cells.2; clear hq6 hsz6 hg6 T5))
    refine (summary16 sa0 sa1 sa2 aa3 la3 ca3 aa4 la4 ca4 ia5 ia6 ia7 ia8 ia9 W6).mono ?_
    rintro e W7 ⟨rfl, hb7⟩
    have T7 := hid (T6.out.later hb7)
    have HQ7 := hid (row_later HQ6.out hb7)
    have z7 : W6.heap.size ≤ W7.heap.size := hb7.size
    clear hb7 T6 HQ6 hca hcb
    go_wp2_with (first
      | (go_at_call 16; fail)
      | (refine wpList_store_whole rfl 44 (.tmp 10) (.tmp 63) rfl W7.heap.size _ _ 44 rfl rfl (heap_new_of rfl _) (by exact Try.info44) (by rfl) (by exact (sumA_one _ _ _ _ _ _ _ _ _ _ _ _ _ _)) ?_; intro W8 hq8 hsz8 hg8; have T8 := hid (T7.out.later (below_new hg8)); have HQ8 := hid (row_later HQ7.out (below_new hg8)); have HA8 := hid hq8; have z8 : W7.heap.size < W8.heap.size := (by rw [hsz8]; simp); have hca := T8.out.cells.1; have hcb := T8.out.cells.2; clear hq8 hsz8 hg8 T7 HQ7))
    refine (summary16 sb0 sb1 sb2 ab3 lb3 cb3 ab4 lb4 cb4 ib5 ib6 ib7 ib8 ib9 W8).mono ?_
    rintro e W9 ⟨rfl, hb9⟩
    have T9 := hid (T8.out.later hb9)
    have HQ9 := hid (row_later HQ8.out hb9)
    have HA9 := hid (row_later HA8.out hb9)
    clear hb9 T8 HQ8 HA8 hca hcb
    go_wp2_with (first
      | (go_at_call 17; fail)
      | (refine wpList_store_whole rfl 44 (.tmp 11) (.tmp 84) rfl W9.heap.size _ _ 44 rfl rfl (heap_new_of rfl _) (by exact Try.info44) (by rfl) (by exact (sumA_one _ _ _ _ _ _ _ _ _ _ _ _ _ _)) ?_; intro W10 hq10 hsz10 hg10; have T10 := hid (T9.out.later (below_new hg10)); have HQ10 := hid (row_later HQ9.out (below_new hg10)); have HA10 := hid (row_later HA9.out (below_new hg10)); have HB10 := hid hq10; clear hq10 hsz10 hg10 T9 HQ9 HA9)
      | (refine wpList_load_row rfl 38 (.tmp 9) rfl W5.heap.size rfl 38 (listQ true) (0, 0) _ (by exact HQ10.out) Try.underlying38 rfl Try.info38 ?_)
      | (refine wpList_load_row rfl 44 (.tmp 10) rfl W7.heap.size rfl 44 (sumA sa0 sa1 sa2 aa3 la3 ca3 aa4 la4 ca4 ia5 ia6 ia7 ia8 ia9) (0, 0) _ (by exact HA10.out) Try.underlying44 rfl Try.info44 ?_)
      | (refine wpList_load_row rfl 44 (.tmp 11) rfl W9.heap.size rfl 44 (sumA sb0 sb1 sb2 ab3 lb3 cb3 ab4 lb4 cb4 ib5 ib6 ib7 ib8 ib9) (0, 0) _ (by exact HB10.out) Try.underlying44 rfl Try.info44 ?_))
    refine (HR1.out _).mono ?_
    rintro e W11 ⟨rfl, hb11⟩
    have T11 := hid (T10.out.later hb11)
    have HQ11 := hid (row_later HQ10.out hb11)
    have HA11 := hid (row_later HA10.out hb11)
    have HB11 := hid (row_later HB10.out hb11)
    clear hb11 T10 HQ10 HA10 HB10 HR1
    go_wp2_with (first
      | (go_at_call 17; fail)
      | (refine wpList_load_row rfl 38 (.tmp 9) rfl W5.heap.size rfl 38 (listQ true) (0, 0) _ (by exact HQ11.out) Try.underlying38 rfl Try.info38 ?_)
      | (refine wpList_load_row rfl 44 (.tmp 10) rfl W7.heap.size rfl 44 (sumA sa0 sa1 sa2 aa3 la3 ca3 aa4 la4 ca4 ia5 ia6 ia7 ia8 ia9) (0, 0) _ (by exact HA11.out) Try.underlying44 rfl Try.info44 ?_)
      | (refine wpList_load_row rfl 44 (.tmp 11) rfl W9.heap.size rfl 44 (sumA sb0 sb1 sb2 ab3 lb3 cb3 ab4 lb4 cb4 ib5 ib6 ib7 ib8 ib9) (0, 0) _ (by exact HB11.out) Try.underlying44 rfl Try.info44 ?_))
    refine (HR2.out _).mono ?_
    rintro e W12 ⟨rfl, hb12⟩
    have T12 := hid (T11.out.later hb12)
    clear hb12 T11 HQ11 HA11 HB11 HR2
    go_wp2_with fail
    go_ret
    exact ⟨rfl, T12.out.below⟩

end Go.Proofs.Qxb6616259a
