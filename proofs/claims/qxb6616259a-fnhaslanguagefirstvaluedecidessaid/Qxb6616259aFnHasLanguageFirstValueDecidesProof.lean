/-
  The proof of 'Rows.FnHasLanguageFirstValueDecidesSaid'.
-/
import Derived.Test.Qxb6616259aHasB
import Derived.Test.Qxb6616259aSpan
import Derived.WalkKit
import Derived.ProofKit
import Derived.OpenShut
import Derived.ShutString
import Derived.ChangeOld
import Derived.Below
namespace Go.Proofs.Qxb6616259a.fnHasLanguageFirstValueDecides
open Go.ChangeShapes Go.WideShapes Go.ChangeAt Go.RowKit
open Go.ChangeMaps (open_string shut_string)
set_option linter.unusedVariables false

theorem own : ownKnob Try.prog.godebug = none := by kernel_rfl
theorem laidOut : laidOutB Try.prog = true := by kernel_rfl

theorem walk_nil (k : Int) (s : ByteArray) (w : World) :
    Calls Try.prog 9 #[.pointer none, .int .i64 k, .string s] w fun e w' => e = .returned (.bool true) ∧ Below w.heap.size w w' := by
  go_enter Try.func9, Try.ntmps9
  go_wp2
  go_ret
  exact ⟨rfl, Below.refl _ _⟩

theorem walk (b o : Nat) (k : Int) (s : ByteArray) (cs : List Value) (a8 : Option Addr) (l8 c8 : Nat) (w : World) (hs : s.size ≤ maxLen)
    (hcs : w.rangeAt b o cs) (hlen : cs.length = 18) (hone : ∀ v ∈ cs, v.oneCell' = true)
    (k8 : w.cell? ⟨b, o + 8, none⟩ = some (.slice a8 l8 c8)) (hL : Lang w a8 l8 c8)
    (hsp : Calls Try.prog 19 #[.int .i64 0, .pointer (some ⟨b, o, none⟩)] w fun e w' => ∃ r : Int, e = .returned (.int .i64 r) ∧ 0 ≤ r ∧ r ≤ 1048577 ∧ Hid (r ≤ 1048576 → l8 ≤ 1048576) ∧ w' = w) :
    Calls Try.prog 9 #[.pointer (some ⟨b, o, none⟩), .int .i64 k, .string s] w fun e w' => e = .returned (.bool true) ∧ Below w.heap.size w w' := by
  rcases Nat.eq_zero_or_pos l8 with h0 | hp
  · subst h0
    exact fvd_zero b o k s cs a8 c8 w hs hcs hlen hone hsp k8 hL
  · by_cases hk : k < 1 ∨ (l8 : Int) < k
    · exact fvd_out b o k s cs a8 l8 c8 w hp hk hs hcs hlen hone hsp k8
    · obtain ⟨kn, rfl⟩ : ∃ kn : Nat, k = kn := ⟨k.toNat, by omega⟩
      have hL' := hL
      obtain ⟨hlc, _, _, h4⟩ := hL
      obtain ⟨ga, ka, zs, rfl, hc⟩ := h4 hp
      exact fvd_cut b o kn s cs ga ka l8 c8 (zs.getD 0 0) w (by omega) (by omega) hlc (hc 0 hp) hs hcs hlen hone hsp k8 hL'

set_option maxRecDepth 100000 in
theorem lifted (os : Os) (started : os.Started) (H : Type) (enc : TypeId × Value → H) :
    ReturnsInHanded {} Try.checked os 9 .any (Rows.fnHasLanguageFirstValueDecidesSpec.pre6 enc Try.prog Try.f9 Rows.fnHasLanguageFirstValueDecidesRow.domain false) (Rows.fnHasLanguageFirstValueDecidesSpec.post enc Try.prog Try.f9 false true false false) := by
  refine returnsInHanded_of_change (C := Try.checked) own started (by kernel_rfl) Try.func9
    (ChangeSpec.witness6 (enc := enc) (C := Try.checked) false ⟨#[], #[.pointer none, .int .i64 0, .string ByteArray.empty], []⟩ 8 (by kernel_rfl) (by kernel_rfl) (by kernel_rfl) (by kernel_rfl)) ?_
  intro W base args ds gs before hval0 hW hcnd _
  have hval : ∀ (j : Nat) t v, Try.f9.params[j]? = some t → args[j]? = some v → Value.okWide Try.prog W .any base t v := hval0
  have hW' := hW
  obtain ⟨p, q, hA0, hV, rfl, hfz, hnd⟩ := hW
  have hA : DataW.TrodAll enc Try.prog W 0 (fun _ => true) true Try.f9.params.toList args.toList ds p := hA0
  rw [Try.params9] at hA hval
  obtain ⟨v0, vs0, d0, ds0, p0, q0, hargs, rfl, rfl, h0, r0⟩ := trodAll_cons hA
  obtain ⟨v1, vs1, d1, ds1, p1, q1, rfl, rfl, rfl, h1, r1⟩ := trodAll_cons r0
  obtain ⟨v2, vs2, d2, ds2, p2, q2, rfl, rfl, rfl, h2, r2⟩ := trodAll_cons r1
  obtain ⟨rfl, rfl, rfl⟩ := trodAll_nil r2
  obtain rfl : args = #[v0, v1, v2] := by cases args; simp_all
  obtain ⟨rfl, rfl⟩ := trodVars_none hV
  obtain ⟨a0, rfl⟩ := okWide_pointer Try.underlying48 (hval 0 48 v0 rfl rfl)
  have k0 := h0
  have lt0 : ∀ x ∈ p0, x.block < W.heap.size := by obtain ⟨m, hm⟩ := k0; exact DataW.trod_lt m _ _ _ hm
  obtain ⟨a1, rfl, rfl, rfl, w1⟩ := open_int Try.underlying3 (hval 1 3 v1 rfl rfl) h1
  obtain ⟨s2, rfl, rfl, rfl, w2⟩ := open_string Try.underlying9 (hval 2 9 v2 rfl rfl) h2
  clear hA0 hval0
  have hwalk : Calls Try.prog 9 #[.pointer a0, .int .i64 a1, .string s2] W fun e w' => e = .returned (.bool true) ∧ Below W.heap.size W w' := by
    obtain ⟨fuel, hf⟩ := h0
    rcases open_span hf with hcs | ⟨b, o, cs, a8, l8, c8, hcs, r1, r2, r3, r4, r5, r6⟩
    · simp [Value.cells] at hcs
      subst hcs
      exact walk_nil a1 s2 W
    · simp [Value.cells] at hcs
      subst hcs
      exact walk b o a1 s2 cs a8 l8 c8 W w2 r1 r2 r3 r4 r5 r6
  refine hwalk.mono fun e W' ⟨he, bel⟩ => ?_
  subst he
  exact ⟨_, rfl, _, _, _, [], _, [], hW', trodAll_mk1 (shut_bool Try.underlying4 _), (trodAll_cons_mk (Below.trod laidOut (by kernel_rfl) (of_decide_eq_true (by kernel_rfl)) k0 bel lt0) (trodAll_cons_mk (shut_int Try.underlying3 w1) (trodAll_cons_mk (shut_string Try.underlying9 w2) trodAll_mk0))), rfl, bel.frame _, fun h => by cases h⟩

theorem over : Rows.fnHasLanguageFirstValueDecidesRow.holds Try.pinned (OpenSpec.ofChange Rows.fnHasLanguageFirstValueDecidesSpec) :=
  OpenClaim.holds_of_wide 9 Try.f9 rfl rfl rfl rfl rfl rfl rfl ⟨rfl, rfl, rfl, rfl, rfl⟩ rfl rfl rfl rfl rfl (by kernel_rfl) Try.func9 (by kernel_rfl)
    (of_decide_eq_true (by kernel_rfl)) (by unfold Func.isWrapper; first | (rw [if_pos (by decide +kernel)]; kernel_rfl) | (rw [if_neg (by decide +kernel)]; exact ⟨rfl, rfl⟩))
    (fun os started H enc _ => lifted os started H enc)

theorem proved : Rows.FnHasLanguageFirstValueDecidesSaid :=
  over
end Go.Proofs.Qxb6616259a.fnHasLanguageFirstValueDecides
