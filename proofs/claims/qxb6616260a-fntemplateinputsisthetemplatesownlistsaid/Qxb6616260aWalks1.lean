/-
  The measures of the law on Template.Inputs, by contracts: they read the names and write nothing.
-/
import Derived.Test.Qxb6616260aRows
import Derived.WalkKit
import Derived.WalkSpells
import Derived.WalkLawsBesides
import Derived.Deep.QuietTactic
import Derived.BigQuiet
namespace Go.Proofs.Qxb6616260a
open Go.RowKit

theorem hid {p : Prop} (h : p) : Hid p := h

set_option maxHeartbeats 400000 in
/-- No name: nil, or empty at whatever address. -/
theorem zz_none (d : Bool) (ao : Option Addr) (cap : Nat) (w : World) :
    Calls Try.prog 4 #[.bool d, .slice ao 0 cap] w fun e w' => ∃ r : Bool, e = .returned (.bool r) ∧ w' = w := by
  go_enter Try.func4, Try.ntmps4
  go_wp2
  go_loop [5, 6] (fun _ i => i = .int .i64 0) (fun _ _ => 0)
  case atStart => rfl
  case round =>
    subst hrel
    go_wp2
    go_ret
    first | exact ⟨_, rfl, rfl⟩ | exact ⟨Or.inl rfl, rfl⟩ | exact ⟨Or.inr rfl, rfl⟩

set_option maxHeartbeats 400000 in
theorem bytes_none (ao : Option Addr) (cap : Nat) (w : World) :
    Calls Try.prog 5 #[.slice ao 0 cap, .int .i64 0] w fun e w' => e = .returned (.int .i64 0) ∧ w' = w := by
  go_enter Try.func5, Try.ntmps5
  go_wp2
  go_loop [1, 5] (fun t i => t = .int .i64 0 ∧ i = .int .i64 0) (fun _ _ => 0)
  case atStart => exact ⟨rfl, rfl⟩
  case round =>
    obtain ⟨rfl, rfl⟩ := hrel
    go_wp2
    go_ret
    exact ⟨rfl, rfl⟩

set_option maxHeartbeats 400000 in
theorem zz_some (d : Bool) (b off len cap : Nat) (f : Nat → ByteArray) (w : World) (hl : len ≤ maxLen) (hf : ∀ i, (f i).size ≤ maxLen)
    (hc : ∀ i, i < len → w.cell? ⟨b, off + i, none⟩ = some (.string (f i))) :
    Calls Try.prog 4 #[.bool d, .slice (some ⟨b, off, none⟩) len cap] w fun e w' => ∃ r : Bool, e = .returned (.bool r) ∧ w' = w := by
  unfold maxLen at *
  have HC := hid hc
  have HF := hid hf
  clear hc hf
  by_cases hbig : 1048576 < len
  · go_enter Try.func4, Try.ntmps4
    go_wp2
    go_ret
    first | exact ⟨_, rfl, rfl⟩ | exact ⟨Or.inl rfl, rfl⟩ | exact ⟨Or.inr rfl, rfl⟩
  · go_enter Try.func4, Try.ntmps4
    go_wp2
    go_loop [5, 6] (fun t i => ∃ (k : Nat) (T : Int), k ≤ len ∧ i = .int .i64 k ∧ t = .int .i64 T ∧ 0 ≤ T ∧ T ≤ 1048576) (fun _ i => len - (intOf i).toNat)
    case atStart => exact ⟨0, _, by omega, rfl, rfl, by omega, by omega⟩
    case round =>
      obtain ⟨k, T, hk, rfl, rfl, h0, h1⟩ := hrel
      by_cases hlt : k < len
      · have hck := HC.out k hlt
        have hfk := HF.out k
        go_wp2
        all_goals first
          | (go_ret; first | exact ⟨_, rfl, rfl⟩ | exact ⟨Or.inl rfl, rfl⟩ | exact ⟨Or.inr rfl, rfl⟩)
          | (go_round
             case rel => exact ⟨k + 1, _, by omega, by go_num, rfl, by omega, by omega⟩
             case measure => simp [intOf]; omega)
      · go_wp2
        go_ret
        first | exact ⟨_, rfl, rfl⟩ | exact ⟨Or.inl rfl, rfl⟩ | exact ⟨Or.inr rfl, rfl⟩

set_option maxHeartbeats 400000 in
theorem bytes_some (b off len cap : Nat) (f : Nat → ByteArray) (w : World) (hl : len ≤ 4096) (hf : ∀ i, (f i).size ≤ maxLen)
    (hc : ∀ i, i < len → w.cell? ⟨b, off + i, none⟩ = some (.string (f i))) :
    Calls Try.prog 5 #[.slice (some ⟨b, off, none⟩) len cap, .int .i64 0] w fun e w' => ∃ r : Int, e = .returned (.int .i64 r) ∧ Hid (r ≤ 1048576 → ∀ i, i < len → (f i).size ≤ 1048576) ∧ w' = w := by
  unfold maxLen at *
  have HC := hid hc
  have HF := hid hf
  clear hc hf
  go_enter Try.func5, Try.ntmps5
  go_wp2
  go_loop [1, 5] (fun t i => ∃ (k : Nat) (T : Int), k ≤ len ∧ i = .int .i64 k ∧ t = .int .i64 T ∧ 0 ≤ T ∧ T ≤ 2097168 ∧ Hid (∀ i, i < k → (f i).size ≤ 1048576)) (fun _ i => len - (intOf i).toNat)
  case atStart => exact ⟨0, 0, by omega, rfl, rfl, by omega, by omega, fun i hi => by omega⟩
  case round =>
    obtain ⟨k, T, hk, rfl, rfl, h0, h1, HS⟩ := hrel
    by_cases hlt : k < len
    · have hck := HC.out k hlt
      have hfk := HF.out k
      by_cases hT : 1048576 < T
      · go_wp2
        go_ret
        exact ⟨_, rfl, fun h => by omega, rfl⟩
      · by_cases hN : 1048576 < (f k).size
        · go_wp2
          go_ret
          exact ⟨_, rfl, fun h => by omega, rfl⟩
        · go_wp2
          go_round
          case rel => exact ⟨k + 1, _, by omega, by go_num, rfl, by omega, by omega, fun i hi => (by rcases Nat.lt_succ_iff_lt_or_eq.1 hi with h | h; exact HS.out i h; subst h; omega)⟩
          case measure => simp [intOf]; omega
    · have hkl : k = len := by omega
      have HK := hid hkl
      clear hkl
      go_wp2
      go_ret
      exact ⟨_, rfl, fun _ i hi => HS.out i (by have := HK.out; omega), rfl⟩

end Go.Proofs.Qxb6616260a
