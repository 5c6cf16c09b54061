/-
  The proof of 'Rows.FnCompareDescendingReversesKeyOnlySaid'.
-/
import Derived.Test.Qxb6616259aCmpB
import Derived.Test.Qxb6616259aSums
import Derived.WalkKit
import Derived.ProofKit
import Derived.OpenShut
import Derived.ShutString
import Derived.ChangeOld
import Derived.Below
namespace Go.Proofs.Qxb6616259a.fnCompareDescendingReversesKeyOnly
open Go.ChangeShapes Go.WideShapes Go.ChangeAt Go.RowKit
open Go.ChangeMaps (open_string shut_string)
set_option linter.unusedVariables false

theorem own : ownKnob Try.prog.godebug = none := by kernel_rfl
theorem laidOut : laidOutB Try.prog = true := by kernel_rfl

theorem walk (av bv : Array Value) (w : World) {sa0 sa1 sa2 sb0 sb1 sb2 : ByteArray} {aa3 aa4 ab3 ab4 : Option Addr} {la3 ca3 la4 ca4 lb3 cb3 lb4 cb4 : Nat} {ia5 ia6 ia7 ia8 ia9 ib5 ib6 ib7 ib8 ib9 : Int}
    (hA : SumIs av sa0 sa1 sa2 aa3 aa4 la3 ca3 la4 ca4 ia5 ia6 ia7 ia8 ia9) (hB : SumIs bv sb0 sb1 sb2 ab3 ab4 lb3 cb3 lb4 cb4 ib5 ib6 ib7 ib8 ib9) :
    Calls Try.prog 5 #[.agg av, .agg bv] w fun e w' => e = .returned (.bool true) ∧ Below w.heap.size w w' := by
  have h1 := fun W => sign_any ia7 ib7 W
  have h2 := fun W => byteCmp_any sa0 sb0 W hA.z0 hB.z0
  have h3 := fun W => cmp17 (listQ false) (sumA sa0 sa1 sa2 aa3 la3 ca3 aa4 la4 ca4 ia5 ia6 ia7 ia8 ia9) (sumA sb0 sb1 sb2 ab3 lb3 cb3 ab4 lb4 cb4 ib5 ib6 ib7 ib8 ib9) false sa0 sb0 ia7 ib7 W rfl rfl rfl rfl rfl rfl rfl rfl rfl
  have h4 := fun W => cmp17 (listQ false) (sumA sb0 sb1 sb2 ab3 lb3 cb3 ab4 lb4 cb4 ib5 ib6 ib7 ib8 ib9) (sumA sa0 sa1 sa2 aa3 la3 ca3 aa4 la4 ca4 ia5 ia6 ia7 ia8 ia9) false sb0 sa0 ib7 ia7 W rfl rfl rfl rfl rfl rfl rfl rfl rfl
  have h5 := fun W => cmp17 (listQ true) (sumA sa0 sa1 sa2 aa3 la3 ca3 aa4 la4 ca4 ia5 ia6 ia7 ia8 ia9) (sumA sb0 sb1 sb2 ab3 lb3 cb3 ab4 lb4 cb4 ib5 ib6 ib7 ib8 ib9) true sa0 sb0 ia7 ib7 W rfl rfl rfl rfl rfl rfl rfl rfl rfl
  simp only [ci_swap ia7 ib7, cb_swap sa0.data.toList sb0.data.toList] at h4
  have r1 := ci_range ia7 ib7
  have r2 := cb_range sa0.data.toList sb0.data.toList
  generalize Lib.compareInt ia7 ib7 = C at h1 h3 h4 h5 r1
  generalize Lib.compareBytes sa0.data.toList sb0.data.toList = S at h2 h3 h4 h5 r2
  by_cases hc : C = 0
  · subst hc
    rw [show orElse (dirC false 0) S = S from by simp [orElse, dirC]] at h3
    rw [show orElse (dirC false (-0)) (-S) = -S from by simp [orElse, dirC]] at h4
    rw [show orElse (dirC true 0) S = S from by simp [orElse, dirC]] at h5
    exact f5_z av bv w sa0 sa1 sa2 aa3 aa4 la3 ca3 la4 ca4 ia5 ia6 ia7 ia8 ia9 sb0 sb1 sb2 ab3 ab4 lb3 cb3 lb4 cb4 ib5 ib6 ib7 ib8 ib9 hA.z0 hA.z1 hA.z2 hA.z3 hA.z4 hB.z0 hB.z1 hB.z2 hB.z3 hB.z4 hA.n hA.k0 hA.k1 hA.k2 hA.k3 hA.k4 hA.k5 hA.k6 hA.k7 hA.k8 hA.k9 hB.n hB.k0 hB.k1 hB.k2 hB.k3 hB.k4 hB.k5 hB.k6 hB.k7 hB.k8 hB.k9 S r2.1 r2.2 (hid h1) (hid h2) (hid h3) (hid h4) (hid h5)
  · have hb : (C != 0) = true := by simpa using hc
    rw [show orElse (dirC false C) S = C from by simp [orElse, dirC, hc]] at h3
    rw [show orElse (dirC false (-C)) (-S) = -C from by simp [orElse, dirC, hc]] at h4
    rw [show orElse (dirC true C) S = -C from by simp [orElse, dirC, hc]] at h5
    exact f5_n av bv w sa0 sa1 sa2 aa3 aa4 la3 ca3 la4 ca4 ia5 ia6 ia7 ia8 ia9 sb0 sb1 sb2 ab3 ab4 lb3 cb3 lb4 cb4 ib5 ib6 ib7 ib8 ib9 hA.z0 hA.z1 hA.z2 hA.z3 hA.z4 hB.z0 hB.z1 hB.z2 hB.z3 hB.z4 hA.n hA.k0 hA.k1 hA.k2 hA.k3 hA.k4 hA.k5 hA.k6 hA.k7 hA.k8 hA.k9 hB.n hB.k0 hB.k1 hB.k2 hB.k3 hB.k4 hB.k5 hB.k6 hB.k7 hB.k8 hB.k9 C S r1.1 r1.2 r2.1 r2.2 hb (hid h1) (hid h2) (hid h3) (hid h4) (hid h5)

set_option maxRecDepth 100000 in
theorem lifted (os : Os) (started : os.Started) (H : Type) (enc : TypeId × Value → H) :
    ReturnsInHanded {} Try.checked os 5 .any (Rows.fnCompareDescendingReversesKeyOnlySpec.pre6 enc Try.prog Try.f5 Rows.fnCompareDescendingReversesKeyOnlyRow.domain false) (Rows.fnCompareDescendingReversesKeyOnlySpec.post enc Try.prog Try.f5 false true false false) := by
  refine returnsInHanded_of_change (C := Try.checked) own started (by kernel_rfl) Try.func5
    (ChangeSpec.witness6 (enc := enc) (C := Try.checked) false ⟨#[], #[.agg #[.string ByteArray.empty, .string ByteArray.empty, .string ByteArray.empty, .slice none 0 0, .slice none 0 0, .int .i64 0, .int .i64 0, .int .i64 0, .int .i64 0, .int .i64 0], .agg #[.string ByteArray.empty, .string ByteArray.empty, .string ByteArray.empty, .slice none 0 0, .slice none 0 0, .int .i64 0, .int .i64 0, .int .i64 0, .int .i64 0, .int .i64 0]], []⟩ 8 (by kernel_rfl) (by kernel_rfl) (by kernel_rfl) (by kernel_rfl)) ?_
  intro W base args ds gs before hval0 hW hcnd _
  have hval : ∀ (j : Nat) t v, Try.f5.params[j]? = some t → args[j]? = some v → Value.okWide Try.prog W .any base t v := hval0
  have hW' := hW
  obtain ⟨p, q, hA0, hV, rfl, hfz, hnd⟩ := hW
  have hA : DataW.TrodAll enc Try.prog W 0 (fun _ => true) true Try.f5.params.toList args.toList ds p := hA0
  rw [Try.params5] at hA hval
  obtain ⟨v0, vs0, d0, ds0, p0, q0, hargs, rfl, rfl, h0, r0⟩ := trodAll_cons hA
  obtain ⟨v1, vs1, d1, ds1, p1, q1, rfl, rfl, rfl, h1, r1⟩ := trodAll_cons r0
  obtain ⟨rfl, rfl, rfl⟩ := trodAll_nil r1
  obtain rfl : args = #[v0, v1] := by cases args; simp_all
  obtain ⟨rfl, rfl⟩ := trodVars_none hV
  obtain ⟨av0, rfl, hn0⟩ := okWide_struct Try.underlying25 (hval 0 25 v0 rfl rfl)
  have k0 := h0
  have lt0 : ∀ x ∈ p0, x.block < W.heap.size := by obtain ⟨m, hm⟩ := k0; exact DataW.trod_lt m _ _ _ hm
  obtain ⟨fuel0, hf0⟩ := h0
  obtain ⟨s00, s01, s02, a03, a04, l03, c03, l04, c04, i05, i06, i07, i08, i09, S0⟩ := open_sum (v := av0) (by simpa [Value.cells] using hf0) (by rw [hn0]; kernel_rfl)
  obtain ⟨av1, rfl, hn1⟩ := okWide_struct Try.underlying25 (hval 1 25 v1 rfl rfl)
  have k1 := h1
  have lt1 : ∀ x ∈ p1, x.block < W.heap.size := by obtain ⟨m, hm⟩ := k1; exact DataW.trod_lt m _ _ _ hm
  obtain ⟨fuel1, hf1⟩ := h1
  obtain ⟨s10, s11, s12, a13, a14, l13, c13, l14, c14, i15, i16, i17, i18, i19, S1⟩ := open_sum (v := av1) (by simpa [Value.cells] using hf1) (by rw [hn1]; kernel_rfl)
  clear hA0 hval0
  refine (walk av0 av1 W S0 S1).mono fun e W' ⟨he, bel⟩ => ?_
  subst he
  exact ⟨_, rfl, _, _, _, [], _, [], hW', trodAll_mk1 (shut_bool Try.underlying4 _), (trodAll_cons_mk (Below.trod laidOut (by kernel_rfl) (of_decide_eq_true (by kernel_rfl)) k0 bel lt0) (trodAll_cons_mk (Below.trod laidOut (by kernel_rfl) (of_decide_eq_true (by kernel_rfl)) k1 bel lt1) trodAll_mk0)), rfl, bel.frame _, fun h => by cases h⟩

theorem over : Rows.fnCompareDescendingReversesKeyOnlyRow.holds Try.pinned (OpenSpec.ofChange Rows.fnCompareDescendingReversesKeyOnlySpec) :=
  OpenClaim.holds_of_wide 5 Try.f5 rfl rfl rfl rfl rfl rfl rfl ⟨rfl, rfl, rfl, rfl, rfl⟩ rfl rfl rfl rfl rfl (by kernel_rfl) Try.func5 (by kernel_rfl)
    (of_decide_eq_true (by kernel_rfl)) (by unfold Func.isWrapper; first | (rw [if_pos (by decide +kernel)]; kernel_rfl) | (rw [if_neg (by decide +kernel)]; exact ⟨rfl, rfl⟩))
    (fun os started H enc _ => lifted os started H enc)

theorem proved : Rows.FnCompareDescendingReversesKeyOnlySaid :=
  over
end Go.Proofs.Qxb6616259a.fnCompareDescendingReversesKeyOnly
