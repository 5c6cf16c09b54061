/-
  The walk of FnTextWriterTakeSplitRequestEqualsWhole, a theorem a way.
-/
import Derived.Test.Qxb6616260aFmtTake
namespace Go.Proofs.Qxb6616260aFmt
open Go.RowKit Go.Extern.Stop Go.Stop Go.Extern
set_option linter.unusedVariables false

/-- What every later world keeps of the first: the sentinel, the tape, all old memory. -/
structure St (w W : World) (ad : Addr) (st : ByteArray) : Prop where
  sent : Sent W ad st
  tape : W.tape = w.tape
  below : Below w.heap.size w W
  pos : 0 < w.heap.size
  low : ad.block < w.heap.size

theorem St.start {w : World} {ad : Addr} {st : ByteArray} (h : Sent w ad st) : St w w ad st :=
  ⟨h, rfl, Below.refl _ _, World.block_lt_of_cell? _ _ h.1, World.block_lt_of_cell? _ _ h.2⟩

theorem St.made {w W W' : World} {ad : Addr} {st : ByteArray} (h : St w W ad st) (hb : Below W.heap.size W W') : St w W' ad st :=
  ⟨⟨cell_later hb h.sent.1, cell_later hb h.sent.2⟩, hb.tape.trans h.tape, h.below.trans (hb.mono h.below.size), h.pos, h.low⟩

theorem St.took {w W W' : World} {ad : Addr} {st : ByteArray} {b : Nat} (h : St w W ad st) (hg : W.grownBy W' (some b)) (hb : w.heap.size ≤ b) : St w W' ad st :=
  ⟨h.sent.kept hg (by have := h.pos; omega) (by have := h.low; omega), hg.tape.trans h.tape, h.below.grown hg h.below.size (fun k hk => by injection hk with hk; omega), h.pos, h.low⟩

theorem St.ans {w W : World} {ad : Addr} {st : ByteArray} (h : St w W ad st) {F : Interp} (hF : F.answers w.tape) : F.answers W.tape := by
  rw [h.tape]; exact hF

theorem St.ne0 {w W : World} {ad : Addr} {st : ByteArray} (h : St w W ad st) {b : Nat} (hb : w.heap.size ≤ b) : 0 ≠ b := by have := h.pos; omega
theorem St.nea {w W : World} {ad : Addr} {st : ByteArray} (h : St w W ad st) {b : Nat} (hb : w.heap.size ≤ b) : ad.block ≠ b := by have := h.low; omega

theorem wr (x y : Int) (h : x = y) (h1 : 0 ≤ y) (h2 : y ≤ 9223372036854775807) : IntKind.i64.wrap x = y := by
  subst h; rw [IntKind.wrap_i64]; omega

theorem min_of (x y z : Int) (w : World) (h : min x y = z) :
    Calls Tryf.prog 7 #[.int .i64 x, .int .i64 y] w fun e w' => e = .returned (.int .i64 z) ∧ w' = w := by
  rw [← h]; exact min_any x y w

set_option maxHeartbeats 2000000 in
theorem f4_A (F : Interp) (n0 lim a b : Int) (ad : Addr) (st : ByteArray) (w : World) (hF : F.answers w.tape) (hS : Sent w ad st)
    (h0 : 0 ≤ n0) (h1 : n0 ≤ lim) (h2 : lim ≤ 9223372036854775807) (ha : 0 ≤ a) (hb : 0 ≤ b) (hab : a ≤ 9223372036854775807 - b) (hA : a + b ≤ lim - n0) :
    Calls Tryf.prog 4 #[.int .i64 n0, .int .i64 lim, .int .i64 a, .int .i64 b] w fun e w' => e = .returned (.bool true) ∧ Below w.heap.size w w' := by
  have HF := hid hF
  have S0 := hid (St.start hS)
  clear hF hS
  go_enter Tryf.func4, Tryf.ntmps4
  go_wp2_with fail
  refine (new_any n0 lim w).mono ?_
  rintro e W1 ⟨rfl, hw, hbl⟩
  have S1 := hid (S0.out.made hbl)
  have U1 := hid hw
  clear hw hbl S0
  go_wp2_with fail
  refine (take_fits w.heap.size a (n0) lim W1 (by omega) (by omega) (by omega) (by omega) (by omega) U1).mono ?_
  rintro e W2 ⟨rfl, hw, hg⟩
  have S2 := hid (S1.out.took hg (Nat.le_refl _))
  have U2 := hid hw
  clear hw hg S1 U1
  go_wp2_with fail
  refine (take_fits w.heap.size b (n0 + a) lim W2 (by omega) (by omega) (by omega) (by omega) (by omega) U2).mono ?_
  rintro e W3 ⟨rfl, hw, hg⟩
  rw [show n0 + a + b = n0 + (a + b) from by omega] at hw
  have S3 := hid (S2.out.took hg (Nat.le_refl _))
  have U3 := hid hw
  have z3 : w.heap.size < W3.heap.size := hw.lt
  clear hw hg S2 U2
  go_wp2_with fail
  refine (new_any n0 lim W3).mono ?_
  rintro e W4 ⟨rfl, hw, hbl⟩
  have S4 := hid (S3.out.made hbl)
  have U4 := hid (U3.out.later (hbl.block _ z3))
  have V4 := hid hw
  clear hw hbl S3 U3
  go_wp2_with fail
  refine (take_fits W3.heap.size (a + b) (n0) lim W4 (by omega) (by omega) (by omega) (by omega) (by omega) V4).mono ?_
  rintro e W5 ⟨rfl, hw, hg⟩
  have S5 := hid (S4.out.took hg (Nat.le_of_lt z3))
  have U5 := hid (U4.out.later (hg.block _ U4.out.lt (fun e => by injection e with e; omega)))
  have V5 := hid hw
  clear hw hg S4 U4 V4 HF
  go_wp2_with fail
  refine (min_of _ _ (a + b) W5 (by omega)).mono ?_
  rintro e w' ⟨rfl, hw⟩
  subst w'
  go_wp2_with fail
  have e1 := wr (a + b) (a + b) rfl (by omega) (by omega)
  have e2 := wr (n0 + (a + b)) (n0 + (a + b)) rfl (by omega) (by omega)
  have hd : decide (lim - n0 < a + b) = false := by simp; omega
  go_quiet ((first
    | (go_at_call_of 9 (w.heap.size); exact Calls.quiet_of_same (n_any w.heap.size _ lim _ (U5.out.later rfl)))
    | (go_at_call_of 9 (W3.heap.size); exact Calls.quiet_of_same (n_any W3.heap.size _ lim _ (V5.out.later rfl)))))
  go_wp2
  go_ret
  exact ⟨rfl, S5.out.below.trans ⟨rfl, rfl, rfl, Nat.le_refl _, fun _ _ => rfl⟩⟩

set_option maxHeartbeats 2000000 in
theorem f4_B (F : Interp) (n0 lim a b : Int) (ad : Addr) (st : ByteArray) (w : World) (hF : F.answers w.tape) (hS : Sent w ad st)
    (h0 : 0 ≤ n0) (h1 : n0 ≤ lim) (h2 : lim ≤ 9223372036854775807) (ha : 0 ≤ a) (hb : 0 ≤ b) (hab : a ≤ 9223372036854775807 - b) (hA : a ≤ lim - n0) (hB : lim - n0 < a + b) :
    Calls Tryf.prog 4 #[.int .i64 n0, .int .i64 lim, .int .i64 a, .int .i64 b] w fun e w' => e = .returned (.bool true) ∧ Below w.heap.size w w' := by
  have HF := hid hF
  have S0 := hid (St.start hS)
  clear hF hS
  go_enter Tryf.func4, Tryf.ntmps4
  go_wp2_with fail
  refine (new_any n0 lim w).mono ?_
  rintro e W1 ⟨rfl, hw, hbl⟩
  have S1 := hid (S0.out.made hbl)
  have U1 := hid hw
  clear hw hbl S0
  go_wp2_with fail
  refine (take_fits w.heap.size a (n0) lim W1 (by omega) (by omega) (by omega) (by omega) (by omega) U1).mono ?_
  rintro e W2 ⟨rfl, hw, hg⟩
  have S2 := hid (S1.out.took hg (Nat.le_refl _))
  have U2 := hid hw
  clear hw hg S1 U1
  go_wp2_with fail
  refine (take_cuts F w.heap.size b (n0 + a) lim ad st W2 (S2.out.ans HF.out) S2.out.sent (S2.out.ne0 (Nat.le_refl _)) (S2.out.nea (Nat.le_refl _)) (by omega) (by omega) (by omega) (by omega) (by omega) U2).mono ?_
  rintro e W3 ⟨N2, rfl, hw, hg⟩
  have S3 := hid (S2.out.took hg (Nat.le_refl _))
  have U3 := hid hw
  have z3 : w.heap.size < W3.heap.size := hw.lt
  clear hw hg S2 U2
  go_wp2_with fail
  refine (new_any n0 lim W3).mono ?_
  rintro e W4 ⟨rfl, hw, hbl⟩
  have S4 := hid (S3.out.made hbl)
  have U4 := hid (U3.out.later (hbl.block _ z3))
  have V4 := hid hw
  clear hw hbl S3 U3
  go_wp2_with fail
  refine (take_cuts F W3.heap.size (a + b) (n0) lim ad st W4 (S4.out.ans HF.out) S4.out.sent (S4.out.ne0 (Nat.le_of_lt z3)) (S4.out.nea (Nat.le_of_lt z3)) (by omega) (by omega) (by omega) (by omega) (by omega) V4).mono ?_
  rintro e W5 ⟨N4, rfl, hw, hg⟩
  have S5 := hid (S4.out.took hg (Nat.le_of_lt z3))
  have U5 := hid (U4.out.later (hg.block _ U4.out.lt (fun e => by injection e with e; omega)))
  have V5 := hid hw
  clear hw hg S4 U4 V4 HF
  go_wp2_with fail
  refine (min_of _ _ (lim - n0) W5 (by omega)).mono ?_
  rintro e w' ⟨rfl, hw⟩
  subst w'
  go_wp2_with fail
  have e1 := wr (a + b) (a + b) rfl (by omega) (by omega)
  have e3 := wr (n0 + (lim - n0)) lim (by omega) (by omega) (by omega)
  have hd : decide (lim - n0 < a + b) = true := by simp; omega
  have e2 := wr (a + (lim - (n0 + a))) (lim - n0) (by omega) (by omega) (by omega)
  go_quiet ((first
    | (go_at_call_of 9 (w.heap.size); exact Calls.quiet_of_same (n_any w.heap.size _ lim _ (U5.out.later rfl)))
    | (go_at_call_of 9 (W3.heap.size); exact Calls.quiet_of_same (n_any W3.heap.size _ lim _ (V5.out.later rfl)))))
  go_wp2
  go_ret
  exact ⟨rfl, S5.out.below.trans ⟨rfl, rfl, rfl, Nat.le_refl _, fun _ _ => rfl⟩⟩

set_option maxHeartbeats 2000000 in
theorem f4_C1 (F : Interp) (n0 lim a b : Int) (ad : Addr) (st : ByteArray) (w : World) (hF : F.answers w.tape) (hS : Sent w ad st)
    (h0 : 0 ≤ n0) (h1 : n0 ≤ lim) (h2 : lim ≤ 9223372036854775807) (ha : 0 ≤ a) (hb : 0 ≤ b) (hab : a ≤ 9223372036854775807 - b) (hA : lim - n0 < a) (hB : b ≤ 0) :
    Calls Tryf.prog 4 #[.int .i64 n0, .int .i64 lim, .int .i64 a, .int .i64 b] w fun e w' => e = .returned (.bool true) ∧ Below w.heap.size w w' := by
  have HF := hid hF
  have S0 := hid (St.start hS)
  clear hF hS
  go_enter Tryf.func4, Tryf.ntmps4
  go_wp2_with fail
  refine (new_any n0 lim w).mono ?_
  rintro e W1 ⟨rfl, hw, hbl⟩
  have S1 := hid (S0.out.made hbl)
  have U1 := hid hw
  clear hw hbl S0
  go_wp2_with fail
  refine (take_cuts F w.heap.size a (n0) lim ad st W1 (S1.out.ans HF.out) S1.out.sent (S1.out.ne0 (Nat.le_refl _)) (S1.out.nea (Nat.le_refl _)) (by omega) (by omega) (by omega) (by omega) (by omega) U1).mono ?_
  rintro e W2 ⟨N1, rfl, hw, hg⟩
  have S2 := hid (S1.out.took hg (Nat.le_refl _))
  have U2 := hid hw
  clear hw hg S1 U1
  go_wp2_with fail
  refine (take_fits w.heap.size b (lim) lim W2 (by omega) (by omega) (by omega) (by omega) (by omega) U2).mono ?_
  rintro e W3 ⟨rfl, hw, hg⟩
  rw [show lim + b = lim from by omega] at hw
  have S3 := hid (S2.out.took hg (Nat.le_refl _))
  have U3 := hid hw
  have z3 : w.heap.size < W3.heap.size := hw.lt
  clear hw hg S2 U2
  go_wp2_with fail
  refine (new_any n0 lim W3).mono ?_
  rintro e W4 ⟨rfl, hw, hbl⟩
  have S4 := hid (S3.out.made hbl)
  have U4 := hid (U3.out.later (hbl.block _ z3))
  have V4 := hid hw
  clear hw hbl S3 U3
  go_wp2_with fail
  refine (take_cuts F W3.heap.size (a + b) (n0) lim ad st W4 (S4.out.ans HF.out) S4.out.sent (S4.out.ne0 (Nat.le_of_lt z3)) (S4.out.nea (Nat.le_of_lt z3)) (by omega) (by omega) (by omega) (by omega) (by omega) V4).mono ?_
  rintro e W5 ⟨N4, rfl, hw, hg⟩
  have S5 := hid (S4.out.took hg (Nat.le_of_lt z3))
  have U5 := hid (U4.out.later (hg.block _ U4.out.lt (fun e => by injection e with e; omega)))
  have V5 := hid hw
  clear hw hg S4 U4 V4 HF
  go_wp2_with fail
  refine (min_of _ _ (lim - n0) W5 (by omega)).mono ?_
  rintro e w' ⟨rfl, hw⟩
  subst w'
  go_wp2_with fail
  have e1 := wr (a + b) (a + b) rfl (by omega) (by omega)
  have e3 := wr (n0 + (lim - n0)) lim (by omega) (by omega) (by omega)
  have hd : decide (lim - n0 < a + b) = true := by simp; omega
  have e2 := wr (lim - n0 + b) (lim - n0) (by omega) (by omega) (by omega)
  go_quiet ((first
    | (go_at_call_of 9 (w.heap.size); exact Calls.quiet_of_same (n_any w.heap.size _ lim _ (U5.out.later rfl)))
    | (go_at_call_of 9 (W3.heap.size); exact Calls.quiet_of_same (n_any W3.heap.size _ lim _ (V5.out.later rfl)))))
  go_wp2
  go_ret
  exact ⟨rfl, S5.out.below.trans ⟨rfl, rfl, rfl, Nat.le_refl _, fun _ _ => rfl⟩⟩

set_option maxHeartbeats 2000000 in
theorem f4_C2 (F : Interp) (n0 lim a b : Int) (ad : Addr) (st : ByteArray) (w : World) (hF : F.answers w.tape) (hS : Sent w ad st)
    (h0 : 0 ≤ n0) (h1 : n0 ≤ lim) (h2 : lim ≤ 9223372036854775807) (ha : 0 ≤ a) (hb : 0 ≤ b) (hab : a ≤ 9223372036854775807 - b) (hA : lim - n0 < a) (hB : 0 < b) :
    Calls Tryf.prog 4 #[.int .i64 n0, .int .i64 lim, .int .i64 a, .int .i64 b] w fun e w' => e = .returned (.bool true) ∧ Below w.heap.size w w' := by
  have HF := hid hF
  have S0 := hid (St.start hS)
  clear hF hS
  go_enter Tryf.func4, Tryf.ntmps4
  go_wp2_with fail
  refine (new_any n0 lim w).mono ?_
  rintro e W1 ⟨rfl, hw, hbl⟩
  have S1 := hid (S0.out.made hbl)
  have U1 := hid hw
  clear hw hbl S0
  go_wp2_with fail
  refine (take_cuts F w.heap.size a (n0) lim ad st W1 (S1.out.ans HF.out) S1.out.sent (S1.out.ne0 (Nat.le_refl _)) (S1.out.nea (Nat.le_refl _)) (by omega) (by omega) (by omega) (by omega) (by omega) U1).mono ?_
  rintro e W2 ⟨N1, rfl, hw, hg⟩
  have S2 := hid (S1.out.took hg (Nat.le_refl _))
  have U2 := hid hw
  clear hw hg S1 U1
  go_wp2_with fail
  refine (take_cuts F w.heap.size b (lim) lim ad st W2 (S2.out.ans HF.out) S2.out.sent (S2.out.ne0 (Nat.le_refl _)) (S2.out.nea (Nat.le_refl _)) (by omega) (by omega) (by omega) (by omega) (by omega) U2).mono ?_
  rintro e W3 ⟨N2, rfl, hw, hg⟩
  have S3 := hid (S2.out.took hg (Nat.le_refl _))
  have U3 := hid hw
  have z3 : w.heap.size < W3.heap.size := hw.lt
  clear hw hg S2 U2
  go_wp2_with fail
  refine (new_any n0 lim W3).mono ?_
  rintro e W4 ⟨rfl, hw, hbl⟩
  have S4 := hid (S3.out.made hbl)
  have U4 := hid (U3.out.later (hbl.block _ z3))
  have V4 := hid hw
  clear hw hbl S3 U3
  go_wp2_with fail
  refine (take_cuts F W3.heap.size (a + b) (n0) lim ad st W4 (S4.out.ans HF.out) S4.out.sent (S4.out.ne0 (Nat.le_of_lt z3)) (S4.out.nea (Nat.le_of_lt z3)) (by omega) (by omega) (by omega) (by omega) (by omega) V4).mono ?_
  rintro e W5 ⟨N4, rfl, hw, hg⟩
  have S5 := hid (S4.out.took hg (Nat.le_of_lt z3))
  have U5 := hid (U4.out.later (hg.block _ U4.out.lt (fun e => by injection e with e; omega)))
  have V5 := hid hw
  clear hw hg S4 U4 V4 HF
  go_wp2_with fail
  refine (min_of _ _ (lim - n0) W5 (by omega)).mono ?_
  rintro e w' ⟨rfl, hw⟩
  subst w'
  go_wp2_with fail
  have e1 := wr (a + b) (a + b) rfl (by omega) (by omega)
  have e3 := wr (n0 + (lim - n0)) lim (by omega) (by omega) (by omega)
  have hd : decide (lim - n0 < a + b) = true := by simp; omega
  have e2 := wr (lim - n0) (lim - n0) rfl (by omega) (by omega)
  go_quiet ((first
    | (go_at_call_of 9 (w.heap.size); exact Calls.quiet_of_same (n_any w.heap.size _ lim _ (U5.out.later rfl)))
    | (go_at_call_of 9 (W3.heap.size); exact Calls.quiet_of_same (n_any W3.heap.size _ lim _ (V5.out.later rfl)))))
  go_wp2
  go_ret
  exact ⟨rfl, S5.out.below.trans ⟨rfl, rfl, rfl, Nat.le_refl _, fun _ _ => rfl⟩⟩

end Go.Proofs.Qxb6616260aFmt
