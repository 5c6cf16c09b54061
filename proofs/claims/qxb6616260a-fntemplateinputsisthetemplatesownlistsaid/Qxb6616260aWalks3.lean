/-
  The walk of the law on Template.Inputs.
-/
import Derived.Test.Qxb6616260aWalks2
import Derived.Deep.CutRange
namespace Go.Proofs.Qxb6616260a
open Go.RowKit

theorem below_drewN (W : World) (n : Nat) : Below W.heap.size W (W.drewN n) := ⟨rfl, rfl, rfl, Nat.le_refl _, fun _ _ => rfl⟩

theorem below_two (W : World) (A B : Obj) : Below W.heap.size W ((W.alloc A).alloc B) := ((Below.refl _ _).alloc (Nat.le_refl _) _).alloc (by simp) _

theorem Below.chain {a b c : World} (h : Below a.heap.size a b) (k : Below b.heap.size b c) : Below a.heap.size a c := h.trans (k.mono h.size)

set_option maxHeartbeats 1000000 in
theorem law_nil_false (w : World) :
    Calls Try.prog 3 #[.bool false, .slice none 0 0] w fun e w' => e = .returned (.bool true) ∧ Below w.heap.size w w' := by
  go_enter Try.func3, Try.ntmps3
  go_wp2_with fail
  refine (zz_none false none 0 w).mono ?_
  rintro e w' ⟨r, rfl, hw⟩
  subst w'
  cases r
  · go_wp2_with fail
    go_ret
    exact ⟨rfl, Below.refl _ _⟩
  · go_wp2_with fail
    refine (bytes_none none 0 w).mono ?_
    rintro e w' ⟨rfl, hw⟩
    subst w'
    go_wp2_with fail
    refine (par_nil w).mono ?_
    rintro e w' ⟨rfl, hw⟩
    subst w'
    go_wp2_with fail
    refine (inp_task (w.heap.size + 1) none none 0 0 _ (by simp) (by rw [cell_of_row _ (w.heap.size + 1) 1 _ 43 (0, 0) (heap_alloc2_new _ _ _)]; rfl)).mono ?_
    rintro e W2 ⟨rfl, hb2⟩
    have B2 := hid (Below.chain (below_two w _ _) hb2)
    clear hb2
    go_wp2_with fail
    refine (reads_nil W2).mono ?_
    rintro e W3 ⟨rfl, n3, hW3⟩
    have B3 := hid (Below.chain B2.out (show Below W2.heap.size W2 W3 from by rw [hW3]; exact below_drewN _ _))
    clear hW3 B2
    go_wp2_with fail
    go_ret
    exact ⟨rfl, B3.out⟩

set_option maxHeartbeats 1000000 in
theorem law_nil_true (w : World) :
    Calls Try.prog 3 #[.bool true, .slice none 0 0] w fun e w' => e = .returned (.bool true) ∧ Below w.heap.size w w' := by
  go_enter Try.func3, Try.ntmps3
  go_wp2_with fail
  refine (zz_none true none 0 w).mono ?_
  rintro e w' ⟨r, rfl, hw⟩
  subst w'
  cases r
  · go_wp2_with fail
    go_ret
    exact ⟨rfl, Below.refl _ _⟩
  · go_wp2_with fail
    refine (bytes_none none 0 w).mono ?_
    rintro e w' ⟨rfl, hw⟩
    subst w'
    go_wp2_with fail
    refine (par_nil w).mono ?_
    rintro e w' ⟨rfl, hw⟩
    subst w'
    go_wp2_with fail
    refine (inp_dag (w.heap.size + 1) none none none 0 0 _ (by simp) (by rw [cell_of_row _ (w.heap.size + 1) 1 _ 38 (0, 0) (heap_alloc2_new _ _ _)]; rfl)).mono ?_
    rintro e W2 ⟨rfl, hb2⟩
    have B2 := hid (Below.chain (below_two w _ _) hb2)
    clear hb2
    go_wp2_with fail
    refine (reads_nil W2).mono ?_
    rintro e W3 ⟨rfl, n3, hW3⟩
    have B3 := hid (Below.chain B2.out (show Below W2.heap.size W2 W3 from by rw [hW3]; exact below_drewN _ _))
    clear hW3 B2
    go_wp2_with fail
    go_ret
    exact ⟨rfl, B3.out⟩

set_option maxHeartbeats 1000000 in
theorem law_empty_false (ad : Addr) (cap : Nat) (w : World) :
    Calls Try.prog 3 #[.bool false, .slice (some ad) 0 cap] w fun e w' => e = .returned (.bool true) ∧ Below w.heap.size w w' := by
  go_enter Try.func3, Try.ntmps3
  go_wp2_with fail
  refine (zz_none false (some ad) cap w).mono ?_
  rintro e w' ⟨r, rfl, hw⟩
  subst w'
  cases r
  · go_wp2_with fail
    go_ret
    exact ⟨rfl, Below.refl _ _⟩
  · go_wp2_with fail
    refine (bytes_none (some ad) cap w).mono ?_
    rintro e w' ⟨rfl, hw⟩
    subst w'
    go_wp2_with fail
    have hN : Hid (Names w ad 0 (fun _ => ByteArray.empty)) := fun h => by omega
    refine (par_some ad 0 cap (fun _ => ByteArray.empty) w (by omega) hN).mono ?_
    rintro e W1 ⟨rfl, hp1, hb1⟩
    have P1 := hid hp1
    have B1 := hid hb1
    clear hp1 hb1
    go_wp2_with fail
    refine (inp_task (W1.heap.size + 1) none (some ⟨w.heap.size, 0, none⟩) 0 0 _ (by simp) (by rw [cell_of_row _ (W1.heap.size + 1) 1 _ 43 (0, 0) (heap_alloc2_new _ _ _)]; rfl)).mono ?_
    rintro e W2 ⟨rfl, hb2⟩
    have B12 := hid (Below.chain (below_two W1 _ _) hb2)
    have P2 := hid (P1.out.later B12.out)
    have B2 := hid (Below.chain B1.out B12.out)
    have N2 : Hid (Names W2 ad 0 (fun _ => ByteArray.empty)) := fun h => by omega
    clear hb2 P1 B1 B12
    go_wp2_with fail
    refine (reads_some w.heap.size ad 0 cap (fun _ => ByteArray.empty) W2 (by omega) P2 N2).mono ?_
    rintro e W3 ⟨rfl, n3, hW3⟩
    have B3 := hid (Below.chain B2.out (show Below W2.heap.size W2 W3 from by rw [hW3]; exact below_drewN _ _))
    clear hW3 B2
    go_wp2_with fail
    go_ret
    exact ⟨rfl, B3.out⟩

set_option maxHeartbeats 1000000 in
theorem law_empty_true (ad : Addr) (cap : Nat) (w : World) :
    Calls Try.prog 3 #[.bool true, .slice (some ad) 0 cap] w fun e w' => e = .returned (.bool true) ∧ Below w.heap.size w w' := by
  go_enter Try.func3, Try.ntmps3
  go_wp2_with fail
  refine (zz_none true (some ad) cap w).mono ?_
  rintro e w' ⟨r, rfl, hw⟩
  subst w'
  cases r
  · go_wp2_with fail
    go_ret
    exact ⟨rfl, Below.refl _ _⟩
  · go_wp2_with fail
    refine (bytes_none (some ad) cap w).mono ?_
    rintro e w' ⟨rfl, hw⟩
    subst w'
    go_wp2_with fail
    have hN : Hid (Names w ad 0 (fun _ => ByteArray.empty)) := fun h => by omega
    refine (par_some ad 0 cap (fun _ => ByteArray.empty) w (by omega) hN).mono ?_
    rintro e W1 ⟨rfl, hp1, hb1⟩
    have P1 := hid hp1
    have B1 := hid hb1
    clear hp1 hb1
    go_wp2_with fail
    refine (inp_dag (W1.heap.size + 1) none none (some ⟨w.heap.size, 0, none⟩) 0 0 _ (by simp) (by rw [cell_of_row _ (W1.heap.size + 1) 1 _ 38 (0, 0) (heap_alloc2_new _ _ _)]; rfl)).mono ?_
    rintro e W2 ⟨rfl, hb2⟩
    have B12 := hid (Below.chain (below_two W1 _ _) hb2)
    have P2 := hid (P1.out.later B12.out)
    have B2 := hid (Below.chain B1.out B12.out)
    have N2 : Hid (Names W2 ad 0 (fun _ => ByteArray.empty)) := fun h => by omega
    clear hb2 P1 B1 B12
    go_wp2_with fail
    refine (reads_some w.heap.size ad 0 cap (fun _ => ByteArray.empty) W2 (by omega) P2 N2).mono ?_
    rintro e W3 ⟨rfl, n3, hW3⟩
    have B3 := hid (Below.chain B2.out (show Below W2.heap.size W2 W3 from by rw [hW3]; exact below_drewN _ _))
    clear hW3 B2
    go_wp2_with fail
    go_ret
    exact ⟨rfl, B3.out⟩

set_option maxHeartbeats 1000000 in
theorem law_some_false (b off len L cap : Nat) (nm : Nat → ByteArray) (w : World) (hL : len = L + 1) (hm : len ≤ maxLen) (hf : ∀ i, (nm i).size ≤ maxLen)
    (hc : ∀ i, i < len → w.cell? ⟨b, off + i, none⟩ = some (.string (nm i))) :
    Calls Try.prog 3 #[.bool false, .slice (some ⟨b, off, none⟩) len cap] w fun e w' => e = .returned (.bool true) ∧ Below w.heap.size w w' := by
  have HC := hid hc
  have HF := hid hf
  have hlw : b < w.heap.size := World.block_lt_of_cell? _ _ (hc 0 (by omega))
  have HM := hid hm
  have HE := hid hL
  have hpos : 0 < len := by omega
  have hLl : L < len := by omega
  clear hc hf hm hL
  go_enter Try.func3, Try.ntmps3
  go_wp2_with fail
  refine (zz_some false b off len cap nm w HM.out HF.out HC.out).mono ?_
  rintro e w' ⟨r, rfl, hw⟩
  subst w'
  cases r
  · go_wp2_with fail
    go_ret
    exact ⟨rfl, Below.refl _ _⟩
  by_cases hbig : 4096 < len
  · go_wp2_with fail
    go_ret
    exact ⟨rfl, Below.refl _ _⟩
  · go_wp2_with fail
    refine (bytes_some b off len cap nm w (by omega) HF.out HC.out).mono ?_
    rintro e w' ⟨r, rfl, hr, hw⟩
    subst w'
    by_cases hrb : 1048576 < r
    · go_wp2_with fail
      go_ret
      exact ⟨rfl, Below.refl _ _⟩
    have hsz : (nm L).size ≤ 1048576 := hr.out (by omega) L (by omega)
    clear hr
    go_wp2_with fail
    have hN : Hid (Names w ⟨b, off, none⟩ len nm) := fun _ => ⟨b, off, rfl, HC.out⟩
    refine (par_some ⟨b, off, none⟩ len cap nm w (by omega) hN).mono ?_
    rintro e W1 ⟨rfl, hp1, hb1⟩
    have P1 := hid hp1
    have B1 := hid hb1
    have z1 : w.heap.size < W1.heap.size := hp1.lt
    clear hp1 hb1
    go_wp2_with fail
    refine (inp_task (W1.heap.size + 1) none (some ⟨w.heap.size, 0, none⟩) len len _ (by simp) (by rw [cell_of_row _ (W1.heap.size + 1) 1 _ 43 (0, 0) (heap_alloc2_new _ _ _)]; rfl)).mono ?_
    rintro e W2 ⟨rfl, hb2⟩
    have B12 := hid (Below.chain (below_two W1 _ _) hb2)
    have P2 := hid (P1.out.later B12.out)
    have B2 := hid (Below.chain B1.out B12.out)
    have T2 := hid (show W2.heap[W1.heap.size]? = some (.cells #[.pointer none, .pointer (some ⟨W1.heap.size + 1, 0, none⟩), .pointer none] 31 (0, 0)) from by rw [hb2.block _ (by simp; omega)]; exact heap_alloc2_old _ _ _)
    have D2 := hid (show W2.cell? ⟨W1.heap.size + 1, 1, none⟩ = some (.slice (some ⟨w.heap.size, 0, none⟩) len len) from (hb2.cell (p := ⟨W1.heap.size + 1, 1, none⟩) (by simp)).trans (by rw [cell_of_row _ (W1.heap.size + 1) 1 _ 43 (0, 0) (heap_alloc2_new _ _ _)]; rfl))
    have z2 : W1.heap.size + 1 < W2.heap.size := by have := hb2.size; simp at this; omega
    clear hb2 P1 B1 B12
    have N2 := hid (hN.out.later B2.out)
    go_wp2_with fail
    refine (reads_some w.heap.size ⟨b, off, none⟩ len cap nm W2 (by omega) P2 N2).mono ?_
    rintro e W3 ⟨rfl, n3, hW3⟩
    have B23 : Below W2.heap.size W2 W3 := by rw [hW3]; exact below_drewN _ _
    have P3 := hid (P2.out.later B23)
    have B3 := hid (Below.chain B2.out B23)
    have T3 := hid (show W3.heap[W1.heap.size]? = some _ from (B23.block _ (by omega)).trans T2.out)
    have D3 := hid (cell_later B23 D2.out)
    have z3 : W2.heap.size ≤ W3.heap.size := B23.size
    clear hW3 B2 P2 T2 D2 B23 N2
    have c3 := (P3.out.cell L (by omega)).1
    have f3 := P3.out.free (L * 3)
    go_upto_region 18 with fail
    rw [show ((len : Int) - 1) = (L : Int) from by have := HE.out; omega]
    go_upto_region 19 with fail
    have P4 := hid (P3.out.setName L (nm L ++ ⟨#[126]⟩))
    have B4 := hid (B3.out.setCell (p := ⟨w.heap.size, L * 3, none⟩) (Nat.le_refl _) (.string (nm L ++ ⟨#[126]⟩)))
    have T4 := hid ((Below.heap_setCell W3 ⟨w.heap.size, L * 3, none⟩ (.string (nm L ++ ⟨#[126]⟩)) W1.heap.size (by simp; omega)).trans T3.out)
    have D4 := hid ((World.cell?_of_block (a := ⟨W1.heap.size + 1, 1, none⟩) (Below.heap_setCell W3 ⟨w.heap.size, L * 3, none⟩ (.string (nm L ++ ⟨#[126]⟩)) (W1.heap.size + 1) (by simp; omega))).trans D3.out)
    have z4 : (W3.setCell ⟨w.heap.size, L * 3, none⟩ (.string (nm L ++ ⟨#[126]⟩))).heap.size = W3.heap.size := by simp [World.setCell]
    clear P3 B3 T3 D3 c3 f3
    generalize W3.setCell ⟨w.heap.size, L * 3, none⟩ (.string (nm L ++ ⟨#[126]⟩)) = W4 at *
    have t0 : W4.cell? ⟨W1.heap.size, 0, none⟩ = some _ := cell_of_row W4 _ 0 _ 31 _ T4.out
    have t1 : W4.cell? ⟨W1.heap.size, 1, none⟩ = some _ := cell_of_row W4 _ 1 _ 31 _ T4.out
    have t2 : W4.cell? ⟨W1.heap.size, 2, none⟩ = some _ := cell_of_row W4 _ 2 _ 31 _ T4.out
    have z4' : W1.heap.size + 1 < W4.heap.size := by omega
    clear z4 T4
    go_wp2_with fail
    refine (inp_task (W1.heap.size + 1) none (some ⟨w.heap.size, 0, none⟩) len len W4 (by omega) D4.out).mono ?_
    rintro e W5 ⟨rfl, hb5⟩
    have P5 := hid (P4.out.later hb5)
    have B5 := hid (B4.out.trans (hb5.mono (by omega)))
    clear hb5 P4 B4 t0 t1 t2 D4
    have HN5 : Hid (∀ i, i < len → W5.cell? ⟨b, off + i, none⟩ = some (.string (nm i))) := fun i hi => (B5.out.cell (p := ⟨b, off + i, none⟩) hlw).trans (HC.out i hi)
    go_wp2_with fail
    go_loopw [10] (fun i wr => ∃ k m : Nat, k ≤ L ∧ i = .int .i64 k ∧ wr = W5.drewN m) (fun i _ => L - (intOf i).toNat)
    case atStart => exact ⟨0, 0, by omega, rfl, rfl⟩
    case round =>
      obtain ⟨k, m, hk, rfl, rfl⟩ := hrel
      by_cases hlt : k < L
      · have hck := HN5.out k (by omega)
        have h0 : W5.cell? ⟨w.heap.size, k * 3, none⟩ = some (.string (nm k)) := by
          have := (P5.out.cell k (by omega)).1
          rw [if_neg (by omega)] at this
          exact this
        have i1 : (k : Int) < (len : Int) := by omega
        go_wp2
        go_quiet (fail)
        go_wp2
        go_roundw
        case rel => exact ⟨k + 1, _, by omega, by go_num, rfl⟩
        case measure => simp [intOf]; omega
      · have hck := HN5.out L (by omega)
        have h0 : W5.cell? ⟨w.heap.size, L * 3, none⟩ = some (.string (nm L ++ ⟨#[126]⟩)) := by
          have := (P5.out.cell L (by omega)).1
          rw [if_pos rfl] at this
          exact this
        have i1 : (L : Int) < (len : Int) := by omega
        go_wp2
        go_quiet (fail)
        go_wp2
        go_ret
        exact ⟨rfl, by rw [World.drewN_drewN]; exact B5.out.trans ((below_drewN W5 _).mono B5.out.size)⟩


set_option maxHeartbeats 1000000 in
theorem law_some_true (b off len L cap : Nat) (nm : Nat → ByteArray) (w : World) (hL : len = L + 1) (hm : len ≤ maxLen) (hf : ∀ i, (nm i).size ≤ maxLen)
    (hc : ∀ i, i < len → w.cell? ⟨b, off + i, none⟩ = some (.string (nm i))) :
    Calls Try.prog 3 #[.bool true, .slice (some ⟨b, off, none⟩) len cap] w fun e w' => e = .returned (.bool true) ∧ Below w.heap.size w w' := by
  have HC := hid hc
  have HF := hid hf
  have hlw : b < w.heap.size := World.block_lt_of_cell? _ _ (hc 0 (by omega))
  have HM := hid hm
  have HE := hid hL
  have hpos : 0 < len := by omega
  have hLl : L < len := by omega
  clear hc hf hm hL
  go_enter Try.func3, Try.ntmps3
  go_wp2_with fail
  refine (zz_some true b off len cap nm w HM.out HF.out HC.out).mono ?_
  rintro e w' ⟨r, rfl, hw⟩
  subst w'
  cases r
  · go_wp2_with fail
    go_ret
    exact ⟨rfl, Below.refl _ _⟩
  by_cases hbig : 4096 < len
  · go_wp2_with fail
    go_ret
    exact ⟨rfl, Below.refl _ _⟩
  · go_wp2_with fail
    refine (bytes_some b off len cap nm w (by omega) HF.out HC.out).mono ?_
    rintro e w' ⟨r, rfl, hr, hw⟩
    subst w'
    by_cases hrb : 1048576 < r
    · go_wp2_with fail
      go_ret
      exact ⟨rfl, Below.refl _ _⟩
    have hsz : (nm L).size ≤ 1048576 := hr.out (by omega) L (by omega)
    clear hr
    go_wp2_with fail
    have hN : Hid (Names w ⟨b, off, none⟩ len nm) := fun _ => ⟨b, off, rfl, HC.out⟩
    refine (par_some ⟨b, off, none⟩ len cap nm w (by omega) hN).mono ?_
    rintro e W1 ⟨rfl, hp1, hb1⟩
    have P1 := hid hp1
    have B1 := hid hb1
    have z1 : w.heap.size < W1.heap.size := hp1.lt
    clear hp1 hb1
    go_wp2_with fail
    refine (inp_dag (W1.heap.size + 1) none none (some ⟨w.heap.size, 0, none⟩) len len _ (by simp) (by rw [cell_of_row _ (W1.heap.size + 1) 1 _ 38 (0, 0) (heap_alloc2_new _ _ _)]; rfl)).mono ?_
    rintro e W2 ⟨rfl, hb2⟩
    have B12 := hid (Below.chain (below_two W1 _ _) hb2)
    have P2 := hid (P1.out.later B12.out)
    have B2 := hid (Below.chain B1.out B12.out)
    have T2 := hid (show W2.heap[W1.heap.size]? = some (.cells #[.pointer (some ⟨W1.heap.size + 1, 0, none⟩), .pointer none, .pointer none] 31 (0, 0)) from by rw [hb2.block _ (by simp; omega)]; exact heap_alloc2_old _ _ _)
    have D2 := hid (show W2.cell? ⟨W1.heap.size + 1, 1, none⟩ = some (.slice (some ⟨w.heap.size, 0, none⟩) len len) from (hb2.cell (p := ⟨W1.heap.size + 1, 1, none⟩) (by simp)).trans (by rw [cell_of_row _ (W1.heap.size + 1) 1 _ 38 (0, 0) (heap_alloc2_new _ _ _)]; rfl))
    have z2 : W1.heap.size + 1 < W2.heap.size := by have := hb2.size; simp at this; omega
    clear hb2 P1 B1 B12
    have N2 := hid (hN.out.later B2.out)
    go_wp2_with fail
    refine (reads_some w.heap.size ⟨b, off, none⟩ len cap nm W2 (by omega) P2 N2).mono ?_
    rintro e W3 ⟨rfl, n3, hW3⟩
    have B23 : Below W2.heap.size W2 W3 := by rw [hW3]; exact below_drewN _ _
    have P3 := hid (P2.out.later B23)
    have B3 := hid (Below.chain B2.out B23)
    have T3 := hid (show W3.heap[W1.heap.size]? = some _ from (B23.block _ (by omega)).trans T2.out)
    have D3 := hid (cell_later B23 D2.out)
    have z3 : W2.heap.size ≤ W3.heap.size := B23.size
    clear hW3 B2 P2 T2 D2 B23 N2
    have c3 := (P3.out.cell L (by omega)).1
    have f3 := P3.out.free (L * 3)
    go_upto_region 18 with fail
    rw [show ((len : Int) - 1) = (L : Int) from by have := HE.out; omega]
    go_upto_region 19 with fail
    have P4 := hid (P3.out.setName L (nm L ++ ⟨#[126]⟩))
    have B4 := hid (B3.out.setCell (p := ⟨w.heap.size, L * 3, none⟩) (Nat.le_refl _) (.string (nm L ++ ⟨#[126]⟩)))
    have T4 := hid ((Below.heap_setCell W3 ⟨w.heap.size, L * 3, none⟩ (.string (nm L ++ ⟨#[126]⟩)) W1.heap.size (by simp; omega)).trans T3.out)
    have D4 := hid ((World.cell?_of_block (a := ⟨W1.heap.size + 1, 1, none⟩) (Below.heap_setCell W3 ⟨w.heap.size, L * 3, none⟩ (.string (nm L ++ ⟨#[126]⟩)) (W1.heap.size + 1) (by simp; omega))).trans D3.out)
    have z4 : (W3.setCell ⟨w.heap.size, L * 3, none⟩ (.string (nm L ++ ⟨#[126]⟩))).heap.size = W3.heap.size := by simp [World.setCell]
    clear P3 B3 T3 D3 c3 f3
    generalize W3.setCell ⟨w.heap.size, L * 3, none⟩ (.string (nm L ++ ⟨#[126]⟩)) = W4 at *
    have t0 : W4.cell? ⟨W1.heap.size, 0, none⟩ = some _ := cell_of_row W4 _ 0 _ 31 _ T4.out
    have t1 : W4.cell? ⟨W1.heap.size, 1, none⟩ = some _ := cell_of_row W4 _ 1 _ 31 _ T4.out
    have t2 : W4.cell? ⟨W1.heap.size, 2, none⟩ = some _ := cell_of_row W4 _ 2 _ 31 _ T4.out
    have z4' : W1.heap.size + 1 < W4.heap.size := by omega
    clear z4 T4
    go_wp2_with fail
    refine (inp_dag (W1.heap.size + 1) none none (some ⟨w.heap.size, 0, none⟩) len len W4 (by omega) D4.out).mono ?_
    rintro e W5 ⟨rfl, hb5⟩
    have P5 := hid (P4.out.later hb5)
    have B5 := hid (B4.out.trans (hb5.mono (by omega)))
    clear hb5 P4 B4 t0 t1 t2 D4
    have HN5 : Hid (∀ i, i < len → W5.cell? ⟨b, off + i, none⟩ = some (.string (nm i))) := fun i hi => (B5.out.cell (p := ⟨b, off + i, none⟩) hlw).trans (HC.out i hi)
    go_wp2_with fail
    go_loopw [10] (fun i wr => ∃ k m : Nat, k ≤ L ∧ i = .int .i64 k ∧ wr = W5.drewN m) (fun i _ => L - (intOf i).toNat)
    case atStart => exact ⟨0, 0, by omega, rfl, rfl⟩
    case round =>
      obtain ⟨k, m, hk, rfl, rfl⟩ := hrel
      by_cases hlt : k < L
      · have hck := HN5.out k (by omega)
        have h0 : W5.cell? ⟨w.heap.size, k * 3, none⟩ = some (.string (nm k)) := by
          have := (P5.out.cell k (by omega)).1
          rw [if_neg (by omega)] at this
          exact this
        have i1 : (k : Int) < (len : Int) := by omega
        go_wp2
        go_quiet (fail)
        go_wp2
        go_roundw
        case rel => exact ⟨k + 1, _, by omega, by go_num, rfl⟩
        case measure => simp [intOf]; omega
      · have hck := HN5.out L (by omega)
        have h0 : W5.cell? ⟨w.heap.size, L * 3, none⟩ = some (.string (nm L ++ ⟨#[126]⟩)) := by
          have := (P5.out.cell L (by omega)).1
          rw [if_pos rfl] at this
          exact this
        have i1 : (L : Int) < (len : Int) := by omega
        go_wp2
        go_quiet (fail)
        go_wp2
        go_ret
        exact ⟨rfl, by rw [World.drewN_drewN]; exact B5.out.trans ((below_drewN W5 _).mono B5.out.size)⟩


end Go.Proofs.Qxb6616260a
