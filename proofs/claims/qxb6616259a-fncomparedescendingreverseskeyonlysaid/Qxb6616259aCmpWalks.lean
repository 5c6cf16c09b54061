/-
  The callees of the two laws on compare, by contracts.
-/
import Derived.Test.Qxb6616259aRows
import Derived.Test.Qxb6616259aPlain
import Derived.WalkKit
import Derived.WalkSpells
import Derived.WalkLawsBesides
import Derived.Lib.Walk
import Derived.Lib.Bytealg
import Derived.Deep.QuietTactic
import Derived.BigQuiet
namespace Go.Proofs.Qxb6616259a
open Go.RowKit

theorem ret_int {k : IntKind} {a b : Int} (h : a = b) : Ending.returned (.int k a) = .returned (.int k b) := by rw [h]

set_option maxHeartbeats 400000 in
theorem sign_any (x y : Int) (w : World) :
    Calls Try.prog 13 #[.int .i64 x, .int .i64 y] w fun e w' => e = .returned (.int .i64 (Lib.compareInt x y)) ∧ w' = w := by
  go_enter Try.func13, Try.ntmps13
  go_wp2
  all_goals (go_ret; refine ⟨?_, rfl⟩; unfold Lib.compareInt; (repeat' split) <;> first | rfl | (exfalso; omega))

set_option maxHeartbeats 400000 in
theorem cmpInt_any (x y : Int) (w : World) :
    Calls Try.prog 27 #[.int .i64 x, .int .i64 y] w fun e w' => e = .returned (.int .i64 (Lib.compareInt x y)) ∧ w' = w := by
  go_enter Try.func27, Try.ntmps27
  go_wp2
  all_goals (go_ret; refine ⟨?_, rfl⟩; unfold Lib.compareInt; (repeat' split) <;> first | rfl | (exfalso; omega))

set_option maxHeartbeats 1000000 in
set_option maxRecDepth 100000 in
theorem bytealg_any (a b : ByteArray) (w : World) :
    Calls Try.prog 34 #[.string a, .string b] w fun e w' => e = .returned (.int .i64 (Lib.compareBytes a.data.toList b.data.toList)) ∧ w' = w := by
  go_enter Try.func34, Try.ntmps34
  go_wp2
  rw [run_callFunc_extern Try.func35 (by kernel_rfl) (by kernel_rfl) (by kernel_rfl) (e := Extern.BytealgCompare.compare) (by kernel_rfl), Lib.run_compareString]
  simp only [Result.andThen]
  rw [Oper.upon_value]
  go_wp2
  go_ret
  exact ⟨rfl, rfl⟩

set_option maxHeartbeats 400000 in
theorem strCmp_any (a b : ByteArray) (w : World) :
    Calls Try.prog 33 #[.string a, .string b] w fun e w' => e = .returned (.int .i64 (Lib.compareBytes a.data.toList b.data.toList)) ∧ w' = w := by
  go_enter Try.func33, Try.ntmps33
  go_wp2_with (go_at_call 34; refine (bytealg_any _ _ _).mono ?_; rintro e w' ⟨rfl, rfl⟩)
  go_ret
  exact ⟨rfl, rfl⟩

set_option maxHeartbeats 400000 in
theorem or_any (g : Nat) (c s : Int) (w : World) (h0 : w.cell? ⟨g, 0, none⟩ = some (.int .i64 c)) (h1 : w.cell? ⟨g, 1, none⟩ = some (.int .i64 s)) :
    Calls Try.prog 32 #[.slice (some ⟨g, 0, none⟩) 2 2] w fun e w' => e = .returned (.int .i64 (orElse c s)) ∧ w' = w := by
  go_enter Try.func32, Try.ntmps32
  go_wp2
  go_loop [8] (fun i => ∃ k : Nat, k ≤ 2 ∧ i = .int .i64 k ∧ Hid (1 ≤ k → c = 0) ∧ Hid (2 ≤ k → s = 0)) (fun i => 2 - (intOf i).toNat)
  case atStart => exact ⟨0, by omega, rfl, fun h => by omega, fun h => by omega⟩
  case round =>
    obtain ⟨k, hk, rfl, HC, HS⟩ := hrel
    rcases (show k = 0 ∨ k = 1 ∨ k = 2 by omega) with rfl | rfl | rfl
    · by_cases hc : c = 0
      · subst hc
        go_wp2
        go_round
        case rel => exact ⟨1, by omega, rfl, by unfold Hid; simp, by unfold Hid; simp⟩
        case measure => simp [intOf]
      · have hb : (c != 0) = true := by simpa using hc
        have E : Hid (orElse c s = c) := by unfold Hid orElse; rw [if_neg hc]
        clear hc
        go_wp2
        go_ret
        exact ⟨ret_int E.out.symm, rfl⟩
    · have E0 : Hid (c = 0) := HC.out (by omega)
      have E : Hid (orElse c s = s) := by unfold Hid orElse; rw [if_pos E0.out]
      by_cases hs : s = 0
      · subst hs
        go_wp2
        go_round
        case rel => exact ⟨2, by omega, rfl, fun _ => E0, by unfold Hid; simp⟩
        case measure => simp [intOf]
      · have hb : (s != 0) = true := by simpa using hs
        clear hs
        go_wp2
        go_ret
        exact ⟨ret_int E.out.symm, rfl⟩
    · have E : Hid (orElse c s = 0) := by unfold Hid orElse; rw [if_pos (HC.out (by omega)), HS.out (by omega)]
      go_wp2
      go_ret
      exact ⟨ret_int E.out.symm, rfl⟩

set_option maxHeartbeats 1000000 in
theorem byteCmp_any (x y : ByteArray) (w : World) (hx : x.size ≤ maxLen) (hy : y.size ≤ maxLen) :
    Calls Try.prog 14 #[.string x, .string y] w fun e w' => e = .returned (.int .i64 (Lib.compareBytes x.data.toList y.data.toList)) ∧ ∃ n, w' = w.drewN n := by
  unfold maxLen at *
  have hlx : x.data.toList.length = x.size := Array.length_toList
  have hly : y.data.toList.length = y.size := Array.length_toList
  have HX := hlx
  have HE : Hid (∀ k, k = min x.size y.size → Lib.compareBytes (x.data.toList.drop k) (y.data.toList.drop k) = if x.size < y.size then -1 else if y.size < x.size then 1 else 0) := fun k hk => by
    have := cb_end x.data.toList y.data.toList k (by rw [hlx, hly]; exact hk)
    rw [hlx, hly] at this
    exact this
  have HST : Hid (∀ k (h1 : k < x.size) (h2 : k < y.size), Lib.compareBytes (x.data.toList.drop k) (y.data.toList.drop k) = if x[k] < y[k] then -1 else if y[k] < x[k] then 1 else Lib.compareBytes (x.data.toList.drop (k + 1)) (y.data.toList.drop (k + 1))) :=
    fun k h1 h2 => cb_step x.data.toList y.data.toList k (by rw [hlx]; exact h1) (by rw [hly]; exact h2)
  clear hlx hly HX
  generalize hcb : Lib.compareBytes x.data.toList y.data.toList = C
  have H0 : Hid (C = Lib.compareBytes (x.data.toList.drop 0) (y.data.toList.drop 0)) := by rw [← hcb]; rfl
  clear hcb
  by_cases hn : y.size < x.size
  all_goals
    go_enter Try.func14, Try.ntmps14
    go_wp2
    go_loopw [6] (fun i wr => ∃ k m : Nat, k ≤ min x.size y.size ∧ i = .int .i64 k ∧ Hid (C = Lib.compareBytes (x.data.toList.drop k) (y.data.toList.drop k)) ∧ wr = w.drewN m) (fun i _ => min x.size y.size - (intOf i).toNat)
    case atStart => exact ⟨0, 0, by omega, rfl, H0, rfl⟩
    case round =>
      obtain ⟨k, m, hk, rfl, HK, rfl⟩ := hrel
      clear H0
      by_cases hlt : k < min x.size y.size
      · have h1 : k < x.size := by omega
        have h2 : k < y.size := by omega
        have HSK := HST.out k h1 h2
        have HK2 : Hid (C = if x[k] < y[k] then -1 else if y[k] < x[k] then 1 else Lib.compareBytes (x.data.toList.drop (k + 1)) (y.data.toList.drop (k + 1))) := HK.out.trans HSK
        clear HSK HK
        have i1 : (k : Int) < (x.size : Int) := by omega
        have i2 : (k : Int) < (y.size : Int) := by omega
        by_cases hA : (x[k].toNat : Int) < y[k].toNat
        · have HC : Hid (C = -1) := by
            rw [HK2.out, if_pos (by simp only [UInt8.lt_iff_toNat_lt]; omega)]; rfl
          go_wp2
          go_quiet (fail)
          go_wp2
          go_ret
          exact ⟨ret_int HC.out.symm, _, by simp only [World.drewN_drewN]; rfl⟩
        · by_cases hB : (y[k].toNat : Int) < x[k].toNat
          · have HC : Hid (C = 1) := by
              rw [HK2.out, if_neg (by simp only [UInt8.lt_iff_toNat_lt]; omega), if_pos (by simp only [UInt8.lt_iff_toNat_lt]; omega)]; rfl
            go_wp2
            go_quiet (fail)
            go_wp2
            go_quiet (fail)
            go_wp2
            go_ret
            exact ⟨ret_int HC.out.symm, _, by simp only [World.drewN_drewN]; rfl⟩
          · have HC : Hid (C = Lib.compareBytes (x.data.toList.drop (k + 1)) (y.data.toList.drop (k + 1))) := by
              rw [HK2.out, if_neg (by simp only [UInt8.lt_iff_toNat_lt]; omega), if_neg (by simp only [UInt8.lt_iff_toNat_lt]; omega)]; rfl
            go_wp2
            go_quiet (fail)
            go_wp2
            go_quiet (fail)
            go_wp2
            go_roundw
            case rel => exact ⟨k + 1, _, by omega, by go_num, HC, rfl⟩
            case measure => simp [intOf]; omega
      · have HC : Hid (C = if x.size < y.size then -1 else if y.size < x.size then 1 else 0) := HK.out.trans (HE.out k (by omega))
        go_wp2
        all_goals
          go_ret
          refine ⟨ret_int ?_, _, rfl⟩
          rw [HC.out]
          (repeat' split) <;> first | rfl | (exfalso; omega)
end Go.Proofs.Qxb6616259a
