/-
  The proof of 'Rows.FnHasLanguageStringNotNullSaid'.
-/
import Derived.Test.Qxb6616259aHasA
import Derived.Test.Qxb6616259aSpan
import Derived.WalkKit
import Derived.ProofKit
import Derived.OpenShut
import Derived.ShutString
import Derived.ChangeOld
import Derived.Below
namespace Go.Proofs.Qxb6616259a.fnHasLanguageStringNotNull
open Go.ChangeShapes Go.WideShapes Go.ChangeAt Go.RowKit
open Go.ChangeMaps (open_string shut_string)
set_option linter.unusedVariables false

theorem own : ownKnob Try.prog.godebug = none := by kernel_rfl
theorem laidOut : laidOutB Try.prog = true := by kernel_rfl

theorem walk_nil (s : ByteArray) (w : World) :
    Calls Try.prog 8 #[.pointer none, .string s] w fun e w' => e = .returned (.bool true) ∧ Below w.heap.size w w' := by
  go_enter Try.func8, Try.ntmps8
  go_wp2
  go_ret
  exact ⟨rfl, Below.refl _ _⟩

/-- What hasLanguage answers of whatever span holds these bytes, in whatever later world. -/
theorem has_any {w : World} {a8 : Option Addr} {l8 c8 : Nat} (hL : Lang w a8 l8 c8) : ∃ d : Bool, ∀ (x y : Nat) (W : World), Below w.heap.size w W → W.cell? ⟨x, y + 8, none⟩ = some (.slice a8 l8 c8) →
    Calls Try.prog 23 #[.pointer (some ⟨x, y, none⟩)] W fun e w' => e = .returned (.bool d) ∧ w' = W := by
  obtain ⟨_, _, _, h4⟩ := hL
  rcases Nat.eq_zero_or_pos l8 with h0 | hp
  · subst h0
    exact ⟨false, fun x y W _ hc => has_empty x y a8 c8 W hc⟩
  · obtain ⟨g, k, zs, rfl, hcell⟩ := h4 hp
    have h1 := hcell 0 hp
    exact ⟨_, fun x y W hb hc => has_one x y g k l8 c8 (zs.getD 0 0) W hp hc (cell_later hb h1)⟩

theorem walk (b o : Nat) (s : ByteArray) (cs : List Value) (a8 : Option Addr) (l8 c8 : Nat) (w : World) (hs : s.size ≤ maxLen)
    (hcs : w.rangeAt b o cs) (hlen : cs.length = 18) (hone : ∀ v ∈ cs, v.oneCell' = true)
    (k8 : w.cell? ⟨b, o + 8, none⟩ = some (.slice a8 l8 c8)) (hL : Lang w a8 l8 c8)
    (hsp : Calls Try.prog 19 #[.int .i64 0, .pointer (some ⟨b, o, none⟩)] w fun e w' => ∃ r : Int, e = .returned (.int .i64 r) ∧ 0 ≤ r ∧ r ≤ 1048577 ∧ Hid (r ≤ 1048576 → l8 ≤ 1048576) ∧ w' = w) :
    Calls Try.prog 8 #[.pointer (some ⟨b, o, none⟩), .string s] w fun e w' => e = .returned (.bool true) ∧ Below w.heap.size w w' := by
  obtain ⟨d, hd⟩ := has_any hL
  exact snn_walk b o s cs a8 l8 c8 w hs hcs hlen hone hsp k8 d hd

set_option maxRecDepth 100000 in
theorem lifted (os : Os) (started : os.Started) (H : Type) (enc : TypeId × Value → H) :
    ReturnsInHanded {} Try.checked os 8 .any (Rows.fnHasLanguageStringNotNullSpec.pre6 enc Try.prog Try.f8 Rows.fnHasLanguageStringNotNullRow.domain false) (Rows.fnHasLanguageStringNotNullSpec.post enc Try.prog Try.f8 false true false false) := by
  refine returnsInHanded_of_change (C := Try.checked) own started (by kernel_rfl) Try.func8
    (ChangeSpec.witness6 (enc := enc) (C := Try.checked) false ⟨#[], #[.pointer none, .string ByteArray.empty], []⟩ 8 (by kernel_rfl) (by kernel_rfl) (by kernel_rfl) (by kernel_rfl)) ?_
  intro W base args ds gs before hval0 hW hcnd _
  have hval : ∀ (j : Nat) t v, Try.f8.params[j]? = some t → args[j]? = some v → Value.okWide Try.prog W .any base t v := hval0
  have hW' := hW
  obtain ⟨p, q, hA0, hV, rfl, hfz, hnd⟩ := hW
  have hA : DataW.TrodAll enc Try.prog W 0 (fun _ => true) true Try.f8.params.toList args.toList ds p := hA0
  rw [Try.params8] at hA hval
  obtain ⟨v0, vs0, d0, ds0, p0, q0, hargs, rfl, rfl, h0, r0⟩ := trodAll_cons hA
  obtain ⟨v1, vs1, d1, ds1, p1, q1, rfl, rfl, rfl, h1, r1⟩ := trodAll_cons r0
  obtain ⟨rfl, rfl, rfl⟩ := trodAll_nil r1
  obtain rfl : args = #[v0, v1] := by cases args; simp_all
  obtain ⟨rfl, rfl⟩ := trodVars_none hV
  obtain ⟨a0, rfl⟩ := okWide_pointer Try.underlying48 (hval 0 48 v0 rfl rfl)
  have k0 := h0
  have lt0 : ∀ x ∈ p0, x.block < W.heap.size := by obtain ⟨m, hm⟩ := k0; exact DataW.trod_lt m _ _ _ hm
  obtain ⟨s1, rfl, rfl, rfl, w1⟩ := open_string Try.underlying9 (hval 1 9 v1 rfl rfl) h1
  clear hA0 hval0
  have hwalk : Calls Try.prog 8 #[.pointer a0, .string s1] W fun e w' => e = .returned (.bool true) ∧ Below W.heap.size W w' := by
    obtain ⟨fuel, hf⟩ := h0
    rcases open_span hf with hcs | ⟨b, o, cs, a8, l8, c8, hcs, r1, r2, r3, r4, r5, r6⟩
    · simp [Value.cells] at hcs
      subst hcs
      exact walk_nil s1 W
    · simp [Value.cells] at hcs
      subst hcs
      exact walk b o s1 cs a8 l8 c8 W w1 r1 r2 r3 r4 r5 r6
  refine hwalk.mono fun e W' ⟨he, bel⟩ => ?_
  subst he
  exact ⟨_, rfl, _, _, _, [], _, [], hW', trodAll_mk1 (shut_bool Try.underlying4 _), (trodAll_cons_mk (Below.trod laidOut (by kernel_rfl) (of_decide_eq_true (by kernel_rfl)) k0 bel lt0) (trodAll_cons_mk (shut_string Try.underlying9 w1) trodAll_mk0)), rfl, bel.frame _, fun h => by cases h⟩

theorem over : Rows.fnHasLanguageStringNotNullRow.holds Try.pinned (OpenSpec.ofChange Rows.fnHasLanguageStringNotNullSpec) :=
  OpenClaim.holds_of_wide 8 Try.f8 rfl rfl rfl rfl rfl rfl rfl ⟨rfl, rfl, rfl, rfl, rfl⟩ rfl rfl rfl rfl rfl (by kernel_rfl) Try.func8 (by kernel_rfl)
    (of_decide_eq_true (by kernel_rfl)) (by unfold Func.isWrapper; first | (rw [if_pos (by decide +kernel)]; kernel_rfl) | (rw [if_neg (by decide +kernel)]; exact ⟨rfl, rfl⟩))
    (fun os started H enc _ => lifted os started H enc)

theorem proved : Rows.FnHasLanguageStringNotNullSaid :=
  over
end Go.Proofs.Qxb6616259a.fnHasLanguageStringNotNull
