/-
  take and its fellows by contracts.
-/
import Derived.Test.Qxb6616260aFmtErr
namespace Go.Proofs.Qxb6616260aFmt
open Go.RowKit Go.Extern.Stop Go.Stop Go.Extern
set_option linter.unusedVariables false

/-- A writer of the call's own in block b: where it stands, and its bound. -/
def Wr (W : World) (b : Nat) (cur lim : Int) : Prop :=
  ∃ (x0 x3 x4 x5 x6 : Value), W.heap[b]? = some (.cells #[x0, .int .i64 cur, .int .i64 lim, x3, x4, x5, x6] 41 (0, 0))

theorem Wr.cells {W : World} {b : Nat} {cur lim : Int} (h : Wr W b cur lim) : W.cell? ⟨b, 1, none⟩ = some (.int .i64 cur) ∧ W.cell? ⟨b, 2, none⟩ = some (.int .i64 lim) ∧ W.frozen? ⟨b, 1, none⟩ = false := by
  obtain ⟨x0, x3, x4, x5, x6, h⟩ := h
  exact ⟨cell_of_row W b 1 _ 41 _ h, cell_of_row W b 2 _ 41 _ h, frozen_of_row W b 1 _ 41 h⟩

theorem Wr.put {W : World} {b : Nat} {cur lim : Int} (h : Wr W b cur lim) (n : Int) : Wr (W.setCell ⟨b, 1, none⟩ (.int .i64 n)) b n lim := by
  obtain ⟨x0, x3, x4, x5, x6, h⟩ := h
  exact ⟨x0, x3, x4, x5, x6, heap_setCell_same W b 1 _ 41 _ h⟩

theorem Wr.lt {W : World} {b : Nat} {cur lim : Int} (h : Wr W b cur lim) : b < W.heap.size := by
  obtain ⟨x0, x3, x4, x5, x6, h⟩ := h
  exact (Array.getElem?_eq_some_iff.1 h).1

theorem Wr.later {W W' : World} {b : Nat} {cur lim : Int} (h : Wr W b cur lim) (hb : W'.heap[b]? = W.heap[b]?) : Wr W' b cur lim := by
  obtain ⟨x0, x3, x4, x5, x6, h⟩ := h
  exact ⟨x0, x3, x4, x5, x6, hb.trans h⟩

theorem grownBy_trans {a b c : World} {r : Option Nat} (h : a.grownBy b r) (k : b.grownBy c r) : a.grownBy c r :=
  ⟨k.os.trans h.os, k.tape.trans h.tape, k.output.trans h.output, Nat.le_trans h.size k.size, fun i hi hne => (k.block i (Nat.lt_of_lt_of_le hi h.size) hne).trans (h.block i hi hne)⟩

theorem grownBy_drewN (w : World) (n : Nat) (r : Option Nat) : w.grownBy (w.drewN n) r := ⟨rfl, rfl, rfl, Nat.le_refl _, fun _ _ _ => rfl⟩

theorem grownBy_put (w : World) (g i : Nat) (v : Value) : w.grownBy (w.setCell ⟨g, i, none⟩ v) (some g) :=
  ⟨rfl, rfl, rfl, by simp [World.setCell], fun k _ hne => Below.heap_setCell w _ v k (fun e => hne (by rw [e]))⟩

theorem grownBy_below {w w' : World} (h : Below w.heap.size w w') (r : Option Nat) : w.grownBy w' r := ⟨h.os, h.tape, h.output, h.size, fun k hk _ => h.block k hk⟩

theorem Sent.kept {w w' : World} {a : Addr} {s : ByteArray} {b : Nat} (h : Sent w a s) (hg : w.grownBy w' (some b)) (h0 : 0 ≠ b) (ha : a.block ≠ b) : Sent w' a s :=
  ⟨hg.cell h.1 (fun e => h0 (by simpa using e)), hg.cell h.2 (fun e => ha (by simpa using e))⟩

/-- The request fits. -/
theorem take_fits (b : Nat) (n cur lim : Int) (w : World) (h0 : 0 ≤ cur) (h1 : cur ≤ lim) (h2 : lim ≤ 9223372036854775807) (hn : 0 ≤ n) (hle : n ≤ lim - cur) (hW : Hid (Wr w b cur lim)) :
    Calls Tryf.prog 8 #[.pointer (some ⟨b, 0, none⟩), .int .i64 n] w fun e w' => e = .returned (.tuple #[.int .i64 n, .nilIface]) ∧ Wr w' b (cur + n) lim ∧ w.grownBy w' (some b) := by
  obtain ⟨c1, c2, f1⟩ := hW.out.cells
  go_enter Tryf.func8, Tryf.ntmps8
  go_wp2
  go_quiet (fail)
  go_wp2
  go_ret2
  exact ⟨rfl, Wr.put (W := w.drewN nq) (hW.out.later rfl) _, grownBy_trans (grownBy_drewN w nq _) (grownBy_put _ _ _ _)⟩

/-- The request is cut at the bound. -/
theorem take_cuts (F : Interp) (b : Nat) (n cur lim : Int) (a : Addr) (s : ByteArray) (w : World) (hF : F.answers w.tape) (hS : Sent w a s) (hb0 : 0 ≠ b) (hba : a.block ≠ b)
    (h0 : 0 ≤ cur) (h1 : cur ≤ lim) (h2 : lim ≤ 9223372036854775807) (hn : 0 ≤ n) (hle : lim - cur < n) (hW : Hid (Wr w b cur lim)) :
    Calls Tryf.prog 8 #[.pointer (some ⟨b, 0, none⟩), .int .i64 n] w fun e w' => ∃ N, e = .returned (.tuple #[.int .i64 (lim - cur), .iface 47 (.pointer (some ⟨N, 0, none⟩))]) ∧ Wr w' b lim lim ∧ w.grownBy w' (some b) := by
  obtain ⟨c1, c2, f1⟩ := hW.out.cells
  have HF := hid hF
  have HS := hid hS
  clear hF hS
  go_enter Tryf.func8, Tryf.ntmps8
  go_wp2_with (first | (go_at_call 11; fail) | go_in)
  go_quiet (fail)
  go_wp2_with (go_at_call 11; fail)
  have W1 := hid (Wr.put (W := w.drewN nq) (hW.out.later rfl) lim)
  have G1 := hid (grownBy_trans (grownBy_drewN w nq (some b)) (grownBy_put (w.drewN nq) b 1 (.int .i64 lim)))
  refine (tooLong_any F b lim a s _ (by rw [G1.out.tape]; exact HF.out) (HS.out.kept G1.out hb0 hba) W1.out.cells.2.1).mono ?_
  rintro e w' ⟨N, rfl, hb⟩
  have W2 := hid (W1.out.later (hb.block b W1.out.lt))
  have G2 := hid (grownBy_trans G1.out (grownBy_below hb _))
  clear hb W1 G1 HS HF
  go_wp2_with fail
  go_ret2
  exact ⟨N, rfl, W2.out, G2.out⟩

set_option maxHeartbeats 400000 in
theorem new_any (n lim : Int) (w : World) :
    Calls Tryf.prog 6 #[.int .i64 n, .int .i64 lim] w fun e w' => e = .returned (.pointer (some ⟨w.heap.size, 0, none⟩)) ∧ Wr w' w.heap.size n lim ∧ Below w.heap.size w w' := by
  go_enter Tryf.func6, Tryf.ntmps6
  go_wp2
  go_ret
  exact ⟨rfl, ⟨_, _, _, _, _, heap_alloc_new w _⟩, (Below.refl _ _).alloc (Nat.le_refl _) _⟩

set_option maxHeartbeats 400000 in
theorem n_any (b : Nat) (cur lim : Int) (w : World) (hW : Wr w b cur lim) :
    Calls Tryf.prog 9 #[.pointer (some ⟨b, 0, none⟩)] w fun e w' => e = .returned (.int .i64 cur) ∧ w' = w := by
  obtain ⟨c1, _, _⟩ := hW.cells
  go_enter Tryf.func9, Tryf.ntmps9
  go_wp2
  go_ret
  exact ⟨rfl, rfl⟩

set_option maxHeartbeats 400000 in
theorem min_any (x y : Int) (w : World) :
    Calls Tryf.prog 7 #[.int .i64 x, .int .i64 y] w fun e w' => e = .returned (.int .i64 (min x y)) ∧ w' = w := by
  by_cases h : x < y
  · rw [show min x y = x by omega]
    go_enter Tryf.func7, Tryf.ntmps7
    go_wp2
    go_ret
    exact ⟨rfl, rfl⟩
  · rw [show min x y = y by omega]
    go_enter Tryf.func7, Tryf.ntmps7
    go_wp2
    go_ret
    exact ⟨rfl, rfl⟩

end Go.Proofs.Qxb6616260aFmt
