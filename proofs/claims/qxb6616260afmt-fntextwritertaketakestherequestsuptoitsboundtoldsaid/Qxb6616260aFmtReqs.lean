/-
  The walk of FnTextWriterTakeTakesTheRequestsUpToItsBound.
-/
import Derived.Test.Qxb6616260aFmtSplit
namespace Go.Proofs.Qxb6616260aFmt
open Go.RowKit Go.Extern.Stop Go.Stop Go.Extern
set_option linter.unusedVariables false

/-- The sum of the first k requests. -/
def sumTo (z : Nat → Int) : Nat → Int
  | 0 => 0
  | k + 1 => sumTo z k + z k

theorem sumTo_mono (z : Nat → Int) (len : Nat) (h : ∀ i, i < len → 0 ≤ z i) : ∀ k, k ≤ len → 0 ≤ sumTo z k ∧ sumTo z k ≤ sumTo z len := by
  have up : ∀ j k, k + j ≤ len → sumTo z k ≤ sumTo z (k + j) := by
    intro j
    induction j with
    | zero => intro k _; exact Int.le_refl _
    | succ j ih =>
      intro k hk
      have h1 := ih k (by omega)
      have h2 : sumTo z (k + (j + 1)) = sumTo z (k + j) + z (k + j) := rfl
      have h3 := h (k + j) (by omega)
      omega
  intro k hk
  have a := up k 0 (by omega)
  have b := up (len - k) k (by omega)
  rw [show 0 + k = k by omega] at a
  rw [show k + (len - k) = len by omega] at b
  exact ⟨a, b⟩

/-- The requests that came in: where there is one, its cells hold ints. -/
def Reqs (w : World) (ao : Option Addr) (len : Nat) (z : Nat → Int) : Prop :=
  0 < len → ∃ b off, ao = some ⟨b, off, none⟩ ∧ ∀ i, i < len → w.cell? ⟨b, off + i, none⟩ = some (.int .i64 (z i))

theorem below_drewN (W : World) (n : Nat) : Below W.heap.size W (W.drewN n) := ⟨rfl, rfl, rfl, Nat.le_refl _, fun _ _ => rfl⟩

set_option maxHeartbeats 400000 in
theorem zz5 (n0 lim : Int) (ao : Option Addr) (len cap : Nat) (w : World) (hl : len ≤ 9223372036854775807) :
    Calls Tryf.prog 5 #[.int .i64 n0, .int .i64 lim, .slice ao len cap] w fun e w' => ∃ r : Bool, e = .returned (.bool r) ∧ w' = w := by
  go_enter Tryf.func5, Tryf.ntmps5
  go_wp2
  all_goals
    go_ret
    first | exact ⟨_, rfl, rfl⟩ | exact ⟨Or.inl rfl, rfl⟩ | exact ⟨Or.inr rfl, rfl⟩

set_option maxHeartbeats 2000000 in
theorem f3_any (F : Interp) (n0 lim : Int) (ao : Option Addr) (len cap : Nat) (z : Nat → Int) (ad : Addr) (st : ByteArray) (w : World) (hF : F.answers w.tape) (hS : Sent w ad st)
    (hl : lim ≤ 9223372036854775807) (hlen : len ≤ 9223372036854775807) (hzb : ∀ i, z i ≤ 9223372036854775807) (hR : Reqs w ao len z) :
    Calls Tryf.prog 3 #[.int .i64 n0, .int .i64 lim, .slice ao len cap] w fun e w' => e = .returned (.bool true) ∧ Below w.heap.size w w' := by
  have HF := hid hF
  have S0 := hid (St.start hS)
  have HR := hid hR
  have HZ := hid hzb
  clear hF hS hR hzb
  go_enter Tryf.func3, Tryf.ntmps3
  go_wp2_with fail
  refine (zz5 n0 lim ao len cap w hlen).mono ?_
  rintro e w' ⟨r, rfl, hw⟩
  subst w'
  cases r
  · go_wp2_with fail
    go_ret
    exact ⟨rfl, Below.refl _ _⟩
  by_cases hbig : 4096 < len
  · go_wp2_with fail
    go_ret
    exact ⟨rfl, Below.refl _ _⟩
  by_cases h0 : n0 < 0
  · go_wp2_with fail
    go_ret
    exact ⟨rfl, Below.refl _ _⟩
  by_cases h1 : lim < n0
  · go_wp2_with fail
    go_ret
    exact ⟨rfl, Below.refl _ _⟩
  go_wp2_with fail
  go_loop [7, 8] (fun t i => ∃ (k : Nat) (A : Int), k ≤ len ∧ i = .int .i64 k ∧ t = .int .i64 A ∧ 0 ≤ A ∧ A ≤ 9223372036854775807 ∧ Hid (A = sumTo z k) ∧ Hid (∀ j, j < k → 0 ≤ z j)) (fun _ i => len - (intOf i).toNat)
  case atStart => exact ⟨0, 0, by omega, rfl, rfl, by omega, by omega, rfl, fun j hj => by omega⟩
  case round =>
    obtain ⟨k, A, hk, rfl, rfl, hA0, hA1, HA, HP⟩ := hrel
    by_cases hlt : k < len
    · obtain ⟨b, off, rfl, hc⟩ := HR.out (by omega)
      have hck := hc k hlt
      have hzk := HZ.out k
      have HA' : Hid (∀ Z, Z = z k → A + Z = sumTo z (k + 1)) := fun Z hZ => by rw [hZ, HA.out]; rfl
      have HP' : Hid (0 ≤ z k → ∀ j, j < k + 1 → 0 ≤ z j) := fun h j hj => by
        rcases Nat.lt_succ_iff_lt_or_eq.1 hj with h' | h'
        · exact HP.out j h'
        · rw [h']; exact h
      obtain ⟨Z, hZ⟩ : ∃ Z, Z = z k := ⟨_, rfl⟩
      rw [← hZ] at hck hzk
      have HZk := hid hZ
      clear hZ hc
      by_cases hneg : Z < 0
      · go_wp2
        go_ret
        exact ⟨rfl, Below.refl _ _⟩
      by_cases hov : 9223372036854775807 - A < Z
      · go_wp2
        go_ret
        exact ⟨rfl, Below.refl _ _⟩
      · go_wp2
        go_round
        case rel => exact ⟨k + 1, A + Z, by omega, by go_num, rfl, by omega, by omega, HA'.out Z HZk.out, HP'.out (by rw [← HZk.out]; omega)⟩
        case measure => simp [intOf]; omega
    · have HKL : Hid (k = len) := by unfold Hid; omega
      have HT := hid (HA.out.trans (by rw [HKL.out]) : A = sumTo z len)
      have HM := hid (sumTo_mono z len (fun i hi => HP.out i (by have := HKL.out; omega)))
      have HPz := hid (fun i (hi : i < len) => HP.out i (by have := HKL.out; omega))
      clear HA HP HKL
      go_wp2_with fail
      refine (new_any n0 lim w).mono ?_
      rintro e W1 ⟨rfl, hw, hbl⟩
      have S1 := hid (S0.out.made hbl)
      have U1 := hid hw
      clear hw hbl S0
      go_wp2_with fail
      go_loopw [11, 12] (fun t i wr => ∃ (k : Nat) (B M : Int), k ≤ len ∧ i = .int .i64 k ∧ t = .int .i64 B ∧ 0 ≤ B ∧ B ≤ A ∧ Hid (B = sumTo z k) ∧ Hid (M = min B (lim - n0)) ∧ Hid (St w wr ad st) ∧ Hid (Wr wr w.heap.size (n0 + M) lim)) (fun _ i _ => len - (intOf i).toNat)
      case atStart => exact ⟨0, 0, 0, by omega, rfl, rfl, by omega, by omega, rfl, by unfold Hid; omega, S1, by unfold Hid; rw [Int.add_zero]; exact U1.out⟩
      case round =>
        obtain ⟨k, B, M, hk, rfl, rfl, hB0, hB1, HB, HMd, SK, UK⟩ := hrel
        clear S1 U1
        have hM0 : 0 ≤ M := by have := HMd.out; omega
        have hM1 : M ≤ lim - n0 := by have := HMd.out; omega
        have hM2 : M ≤ B := by have := HMd.out; omega
        by_cases hlt : k < len
        · obtain ⟨b, off, rfl, hc⟩ := HR.out (by omega)
          obtain ⟨Z, hZ⟩ : ∃ Z, Z = z k := ⟨_, rfl⟩
          have hc0 := hc k hlt
          rw [← hZ] at hc0
          have hbl : b < w.heap.size := World.block_lt_of_cell? _ _ hc0
          have hck : wr.cell? ⟨b, off + k, none⟩ = some (.int .i64 Z) := (SK.out.below.cell (p := ⟨b, off + k, none⟩) hbl).trans hc0
          have hZ0 : 0 ≤ Z := by rw [hZ]; exact HPz.out k hlt
          have HBk : Hid (B + Z = sumTo z (k + 1)) := by unfold Hid; rw [HB.out, hZ]; rfl
          have hBZ : B + Z ≤ A := by rw [HBk.out, HT.out]; exact (HM.out (k + 1) (by omega)).2
          obtain ⟨M', hM'⟩ : ∃ M', M' = min (B + Z) (lim - n0) := ⟨_, rfl⟩
          have HMd' := hid hM'
          have m1 : M' ≤ B + Z := by omega
          have m2 : M' ≤ lim - n0 := by omega
          have m3 : M ≤ M' := by have := HMd.out; omega
          have HZk := hid hZ
          have HC0 := hid hc0
          clear hM' hZ hc HB
          go_wp2_with fail
          refine (min_of _ _ M' wr (by have := HMd'.out; omega)).mono ?_
          rintro e w' ⟨rfl, hw⟩
          subst w'
          go_wp2_with fail
          refine (min_of _ _ M wr (by have := HMd.out; omega)).mono ?_
          rintro e w' ⟨rfl, hw⟩
          subst w'
          go_wp2_with fail
          have eM := HMd.out
          have eM' := HMd'.out
          by_cases hfit : Z ≤ lim - (n0 + M)
          · have hq : (Z != M' - M) = false := by simp; omega
            have hd : decide (M' - M < Z) = false := by simp; omega
            clear eM eM'
            refine (take_fits w.heap.size Z (n0 + M) lim wr (by omega) (by omega) (by omega) (by omega) (by omega) UK).mono ?_
            rintro e W2 ⟨rfl, hw, hg⟩
            have S2 := hid (SK.out.took hg (Nat.le_refl _))
            have U2 : Hid (Wr W2 w.heap.size (n0 + M') lim) := by unfold Hid; rw [show n0 + M' = n0 + M + Z by have h1 := HMd.out; have h2 := HMd'.out; omega]; exact hw
            clear hw hg SK UK
            have hck2 : W2.cell? ⟨b, off + k, none⟩ = some (.int .i64 Z) := (S2.out.below.cell (p := ⟨b, off + k, none⟩) hbl).trans hc0
            go_wp2_with fail
            go_quiet (fail)
            go_wp2
            go_roundw
            case rel => exact ⟨k + 1, B + Z, M', by omega, by go_num, rfl, by omega, by omega, HBk.out, HMd'.out, S2.out.made (below_drewN W2 _), U2.out.later rfl⟩
            case measure => simp [intOf]; omega
          · have hq : (lim - (n0 + M) != M' - M) = false := by simp; omega
            have hd : decide (M' - M < Z) = true := by simp; omega
            clear eM eM'
            refine (take_cuts F w.heap.size Z (n0 + M) lim ad st wr (SK.out.ans HF.out) SK.out.sent (SK.out.ne0 (Nat.le_refl _)) (SK.out.nea (Nat.le_refl _)) (by omega) (by omega) (by omega) (by omega) (by omega) UK).mono ?_
            rintro e W2 ⟨N1, rfl, hw, hg⟩
            have S2 := hid (SK.out.took hg (Nat.le_refl _))
            have U2 : Hid (Wr W2 w.heap.size (n0 + M') lim) := by unfold Hid; rw [show n0 + M' = lim by have h1 := HMd.out; have h2 := HMd'.out; omega]; exact hw
            clear hw hg SK UK
            have hck2 : W2.cell? ⟨b, off + k, none⟩ = some (.int .i64 Z) := (S2.out.below.cell (p := ⟨b, off + k, none⟩) hbl).trans hc0
            go_wp2_with fail
            go_quiet (fail)
            go_wp2
            go_roundw
            case rel => exact ⟨k + 1, B + Z, M', by omega, by go_num, rfl, by omega, by omega, HBk.out, HMd'.out, S2.out.made (below_drewN W2 _), U2.out.later rfl⟩
            case measure => simp [intOf]; omega
        · have HKL : Hid (k = len) := by unfold Hid; omega
          have HBA : Hid (B = A) := by unfold Hid; rw [HB.out, HT.out, HKL.out]
          go_wp2_with fail
          refine (n_any w.heap.size (n0 + M) lim wr UK.out).mono ?_
          rintro e w' ⟨rfl, hw⟩
          subst w'
          go_wp2_with fail
          refine (min_of _ _ M wr (by have h1 := HMd.out; have h2 := HBA.out; omega)).mono ?_
          rintro e w' ⟨rfl, hw⟩
          subst w'
          go_wp2_with fail
          go_ret
          exact ⟨rfl, SK.out.below⟩

end Go.Proofs.Qxb6616260aFmt
