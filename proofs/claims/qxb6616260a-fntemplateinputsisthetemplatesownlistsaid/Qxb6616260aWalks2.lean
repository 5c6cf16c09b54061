/-
  zzWfB1Params, Template.Inputs and zzWfB1ReadsAs, by contracts.
-/
import Derived.Test.Qxb6616260aPars
namespace Go.Proofs.Qxb6616260a
open Go.RowKit

/-- The names that came in: where there is one, its cells hold strings. -/
def Names (w : World) (ad : Addr) (len : Nat) (nm : Nat → ByteArray) : Prop :=
  0 < len → ∃ b off, ad = ⟨b, off, none⟩ ∧ ∀ i, i < len → w.cell? ⟨b, off + i, none⟩ = some (.string (nm i))

theorem Names.later {w W : World} {ad : Addr} {len : Nat} {nm : Nat → ByteArray} (h : Names w ad len nm) (hb : Below w.heap.size w W) : Names W ad len nm := fun hp => by
  obtain ⟨b, off, e, hc⟩ := h hp
  exact ⟨b, off, e, fun i hi => cell_later hb (hc i hi)⟩

theorem nil22 (W : World) (a : Option Addr) (l c : Nat) : (binOp .eql 22 (.slice a l c) (.slice none 0 0)).run Try.prog W = .ok (.bool a.isNone) W := by
  simp only [binOp]
  simp [run_equal_slice_nil W 22 9 a l c Try.underlying22]
theorem nil25 (W : World) (a : Option Addr) (l c : Nat) : (binOp .eql 25 (.slice a l c) (.slice none 0 0)).run Try.prog W = .ok (.bool a.isNone) W := by
  simp only [binOp]
  simp [run_equal_slice_nil W 25 50 a l c Try.underlying25]

set_option maxHeartbeats 400000 in
theorem par_nil (w : World) : Calls Try.prog 6 #[.slice none 0 0] w fun e w' => e = .returned (.slice none 0 0) ∧ w' = w := by
  have k22 := nil22
  go_enter Try.func6, Try.ntmps6
  go_wp2
  go_ret
  exact ⟨rfl, rfl⟩

set_option maxHeartbeats 1000000 in
theorem par_some (ad : Addr) (len cap : Nat) (nm : Nat → ByteArray) (w : World) (hl : len ≤ 4096) (hN : Hid (Names w ad len nm)) :
    Calls Try.prog 6 #[.slice (some ad) len cap] w fun e w' => e = .returned (.slice (some ⟨w.heap.size, 0, none⟩) len len) ∧ Pars w' w.heap.size len nm ∧ Below w.heap.size w w' := by
  obtain ⟨i0, hi, hz0, hz1, hz2⟩ := info_parts Try.info50
  have k22 := nil22
  go_enter Try.func6, Try.ntmps6
  go_wp2_with (at_make; refine wpList_make_full _ rfl _ _ 25 rfl w.heap.size 50 i0 _ 3 Try.underlying25 hi hz0 hz1 .i64 .i64 _ _ len rfl rfl (by omega) (by omega) (by rw [hz2]; omega) (by unfold maxLen; omega) (Nat.le_refl _) ?_; intro w0 hown0 hgrow0)
  have P0 := hid (pars_made hown0)
  have B0 := hid ((Below.refl w.heap.size w).grown hgrow0 (Nat.le_refl _) (fun k h => by cases h))
  clear hown0 hgrow0
  go_loopw [4] (fun i wr => ∃ k : Nat, k ≤ len ∧ i = .int .i64 k ∧ Hid (Pars wr w.heap.size len (fun j => if j < k then nm j else ByteArray.empty)) ∧ Hid (Below w.heap.size w wr)) (fun i _ => len - (intOf i).toNat)
  case atStart => exact ⟨0, by omega, rfl, P0.out.same (fun i _ => by simp), B0⟩
  case round =>
    obtain ⟨k, hk, rfl, PK, BK⟩ := hrel
    clear P0 B0
    by_cases hlt : k < len
    · obtain ⟨b, off, rfl, hc⟩ := hN.out (by omega)
      have hlw : b < w.heap.size := World.block_lt_of_cell? _ _ (hc 0 (by omega))
      have hck : wr.cell? ⟨b, off + k, none⟩ = some (.string (nm k)) := (BK.out.cell (p := ⟨b, off + k, none⟩) hlw).trans (hc k hlt)
      clear hc
      go_wp2_with (refine wpList_store_par rfl (.tmp 23) (.tmp 22) rfl w.heap.size len k _ (nm k) (by rfl) (by rfl) PK.out hlt ?_; intro w1 hp1 hs1 hg1)
      go_roundw
      case rel =>
        refine ⟨k + 1, by omega, by go_num, hp1.same (fun i _ => ?_), BK.out.grown hg1 BK.out.size (fun k hk => by injection hk with hk; omega)⟩
        by_cases e : i = k
        · rw [if_pos e, if_pos (by omega), e]
        · rw [if_neg e]
          by_cases e2 : i < k
          · rw [if_pos e2, if_pos (by omega)]
          · rw [if_neg e2, if_neg (by omega)]
      case measure => simp [intOf]; omega
    · go_wp2
      go_ret
      exact ⟨rfl, PK.out.same (fun i hi => by rw [if_pos (by omega)]), BK.out⟩

set_option maxHeartbeats 400000 in
theorem inp_dag (b1 : Nat) (p1 p2 : Option Addr) (a : Option Addr) (l c : Nat) (w : World) (hb : b1 < w.heap.size) (hc : w.cell? ⟨b1, 1, none⟩ = some (.slice a l c)) :
    Calls Try.prog 7 #[.agg #[.pointer (some ⟨b1, 0, none⟩), .pointer p1, .pointer p2]] w fun e w' => e = .returned (.slice a l c) ∧ Below w.heap.size w w' := by
  go_enter Try.func7, Try.ntmps7
  go_wp2
  go_ret
  exact ⟨rfl, (Below.refl _ _).alloc (Nat.le_refl _) _⟩

set_option maxHeartbeats 400000 in
theorem inp_task (b1 : Nat) (p2 : Option Addr) (a : Option Addr) (l c : Nat) (w : World) (hb : b1 < w.heap.size) (hc : w.cell? ⟨b1, 1, none⟩ = some (.slice a l c)) :
    Calls Try.prog 7 #[.agg #[.pointer none, .pointer (some ⟨b1, 0, none⟩), .pointer p2]] w fun e w' => e = .returned (.slice a l c) ∧ Below w.heap.size w w' := by
  go_enter Try.func7, Try.ntmps7
  go_wp2
  go_ret
  exact ⟨rfl, (Below.refl _ _).alloc (Nat.le_refl _) _⟩

set_option maxHeartbeats 400000 in
theorem reads_nil (w : World) : Calls Try.prog 8 #[.slice none 0 0, .slice none 0 0] w fun e w' => e = .returned (.bool true) ∧ ∃ n, w' = w.drewN n := by
  have k22 := nil22
  have k25 := nil25
  go_enter Try.func8, Try.ntmps8
  go_wp2
  go_loop [5] (fun i => i = .int .i64 0) (fun _ => 0)
  case atStart => rfl
  case round =>
    subst hrel
    go_wp2
    go_ret
    exact ⟨rfl, 0, rfl⟩

set_option maxHeartbeats 1000000 in
theorem reads_some (g : Nat) (ad : Addr) (len cap : Nat) (nm : Nat → ByteArray) (w : World) (hl : len ≤ 4096) (hP : Hid (Pars w g len nm)) (hN : Hid (Names w ad len nm)) :
    Calls Try.prog 8 #[.slice (some ⟨g, 0, none⟩) len len, .slice (some ad) len cap] w fun e w' => e = .returned (.bool true) ∧ ∃ n, w' = w.drewN n := by
  have k22 := nil22
  have k25 := nil25
  go_enter Try.func8, Try.ntmps8
  go_wp2
  go_loopw [5] (fun i wr => ∃ k m : Nat, k ≤ len ∧ i = .int .i64 k ∧ wr = w.drewN m) (fun i _ => len - (intOf i).toNat)
  case atStart => exact ⟨0, 0, by omega, rfl, rfl⟩
  case round =>
    obtain ⟨k, m, hk, rfl, rfl⟩ := hrel
    by_cases hlt : k < len
    · obtain ⟨b, off, rfl, hc⟩ := hN.out (by omega)
      have hck := hc k hlt
      have h0 := (hP.out.cell k hlt).1
      have h1 := (hP.out.cell k hlt).2.1
      have h2 := (hP.out.cell k hlt).2.2
      have i1 : (k : Int) < (len : Int) := by omega
      clear hc
      go_wp2
      go_quiet (fail)
      go_wp2
      go_roundw
      case rel => exact ⟨k + 1, _, by omega, by go_num, rfl⟩
      case measure => simp [intOf]; omega
    · go_wp2
      go_ret
      exact ⟨rfl, _, rfl⟩

end Go.Proofs.Qxb6616260a
