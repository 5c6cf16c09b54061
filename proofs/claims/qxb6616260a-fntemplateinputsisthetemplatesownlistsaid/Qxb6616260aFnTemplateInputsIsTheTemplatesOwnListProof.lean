/-
  The proof of 'Rows.FnTemplateInputsIsTheTemplatesOwnListSaid'.
-/
import Derived.Test.Qxb6616260aWalks3
import Derived.WalkKit
import Derived.ProofKit
import Derived.OpenShut
import Derived.ShutString
import Derived.ChangeOld
import Derived.SliceStrings
import Derived.Below
namespace Go.Proofs.Qxb6616260a.fnTemplateInputsIsTheTemplatesOwnList
open Go.ChangeShapes Go.WideShapes Go.ChangeAt Go.RowKit
set_option linter.unusedVariables false

theorem own : ownKnob Try.prog.godebug = none := by kernel_rfl
theorem laidOut : laidOutB Try.prog = true := by kernel_rfl

theorem walk_some (d : Bool) (b off len cap : Nat) (nm : Nat → ByteArray) (w : World) (hp : 0 < len) (hm : len ≤ maxLen) (hf : ∀ i, (nm i).size ≤ maxLen)
    (hc : ∀ i, i < len → w.cell? ⟨b, off + i, none⟩ = some (.string (nm i))) :
    Calls Try.prog 3 #[.bool d, .slice (some ⟨b, off, none⟩) len cap] w fun e w' => e = .returned (.bool true) ∧ Below w.heap.size w w' := by
  cases d
  · exact law_some_false b off len (len - 1) cap nm w (by omega) hm hf hc
  · exact law_some_true b off len (len - 1) cap nm w (by omega) hm hf hc

theorem walk_nil (d : Bool) (w : World) :
    Calls Try.prog 3 #[.bool d, .slice none 0 0] w fun e w' => e = .returned (.bool true) ∧ Below w.heap.size w w' := by
  cases d
  · exact law_nil_false w
  · exact law_nil_true w

theorem walk_empty (d : Bool) (ad : Addr) (cap : Nat) (w : World) :
    Calls Try.prog 3 #[.bool d, .slice (some ad) 0 cap] w fun e w' => e = .returned (.bool true) ∧ Below w.heap.size w w' := by
  cases d
  · exact law_empty_false ad cap w
  · exact law_empty_true ad cap w

set_option maxRecDepth 100000 in
theorem lifted (os : Os) (started : os.Started) (H : Type) (enc : TypeId × Value → H) :
    ReturnsInHanded {} Try.checked os 3 .any (Rows.fnTemplateInputsIsTheTemplatesOwnListSpec.pre6 enc Try.prog Try.f3 Rows.fnTemplateInputsIsTheTemplatesOwnListRow.domain false) (Rows.fnTemplateInputsIsTheTemplatesOwnListSpec.post enc Try.prog Try.f3 false true false false) := by
  refine returnsInHanded_of_change (C := Try.checked) own started (by kernel_rfl) Try.func3
    (ChangeSpec.witness6 (enc := enc) (C := Try.checked) false ⟨#[], #[.bool false, .slice none 0 0], []⟩ 8 (by kernel_rfl) (by kernel_rfl) (by kernel_rfl) (by kernel_rfl)) ?_
  intro W base args ds gs before hval0 hW hcnd _
  have hval : ∀ (j : Nat) t v, Try.f3.params[j]? = some t → args[j]? = some v → Value.okWide Try.prog W .any base t v := hval0
  have hW' := hW
  obtain ⟨p, q, hA0, hV, rfl, hfz, hnd⟩ := hW
  have hA : DataW.TrodAll enc Try.prog W 0 (fun _ => true) true Try.f3.params.toList args.toList ds p := hA0
  rw [Try.params3] at hA hval
  obtain ⟨v0, vs0, d0, ds0, p0, q0, hargs, rfl, rfl, h0, r0⟩ := trodAll_cons hA
  obtain ⟨v1, vs1, d1, ds1, p1, q1, rfl, rfl, rfl, h1, r1⟩ := trodAll_cons r0
  obtain ⟨rfl, rfl, rfl⟩ := trodAll_nil r1
  obtain rfl : args = #[v0, v1] := by cases args; simp_all
  obtain ⟨rfl, rfl⟩ := trodVars_none hV
  obtain ⟨x0, rfl, rfl, rfl⟩ := open_bool Try.underlying4 (hval 0 4 v0 rfl rfl) h0
  obtain ⟨a1, len1, cap1, rfl⟩ := okWide_slice Try.underlying22 (hval 1 22 v1 rfl rfl)
  have k1 := h1
  have lt1 : ∀ x ∈ p1, x.block < W.heap.size := by obtain ⟨m, hm⟩ := k1; exact DataW.trod_lt m _ _ _ hm
  clear hA0 hval0
  have hwalk : Calls Try.prog 3 #[.bool x0, .slice a1 len1 cap1] W fun e w' => e = .returned (.bool true) ∧ Below W.heap.size W w' := by
    obtain ⟨fuel, hf⟩ := h1
    rcases open_strings Try.underlying22 Try.underlying9 (by kernel_rfl) hf with ⟨hcs, _⟩ | ⟨a, l, c, ss, hcs, _, hl, hm, hz, _, hcell, hwz⟩
    · simp [Value.cells] at hcs
      obtain ⟨rfl, rfl, rfl⟩ := hcs
      exact walk_nil x0 W
    · simp [Value.cells] at hcs
      obtain ⟨rfl, rfl, rfl⟩ := hcs
      have hzl : ss.length = cap1 := by simpa using hz
      rcases Nat.eq_zero_or_pos len1 with h | hp
      · subst h
        exact walk_empty x0 a cap1 W
      · obtain ⟨b, off, spot⟩ := a
        have hspot : spot = none := by simpa [Addr.add] using World.cell?_spot (hcell 0 (by omega))
        subst hspot
        refine walk_some x0 b off len1 cap1 (fun i => ss.getD i ByteArray.empty) W hp (by omega) (fun i => ?_) (fun i hi => ?_)
        · rcases Nat.lt_or_ge i ss.length with h | h
          · have : ss.getD i ByteArray.empty = ss[i] := by simp [List.getD, List.getElem?_eq_getElem h]
            show (ss.getD i ByteArray.empty).size ≤ maxLen
            rw [this]; exact hwz _ (List.getElem_mem h)
          · have : ss.getD i ByteArray.empty = ByteArray.empty := by simp [List.getD, List.getElem?_eq_none h]
            show (ss.getD i ByteArray.empty).size ≤ maxLen
            rw [this]; exact Nat.zero_le _
        · rw [← add_plain]; exact hcell i (by omega)
  refine hwalk.mono fun e W' ⟨he, bel⟩ => ?_
  subst he
  exact ⟨_, rfl, _, _, _, [], _, [], hW', trodAll_mk1 (shut_bool Try.underlying4 _), (trodAll_cons_mk (shut_bool Try.underlying4 _) (trodAll_cons_mk (Below.trod laidOut (by kernel_rfl) (of_decide_eq_true (by kernel_rfl)) k1 bel lt1) trodAll_mk0)), rfl, bel.frame _, fun h => by cases h⟩

theorem over : Rows.fnTemplateInputsIsTheTemplatesOwnListRow.holds Try.pinned (OpenSpec.ofChange Rows.fnTemplateInputsIsTheTemplatesOwnListSpec) :=
  OpenClaim.holds_of_wide 3 Try.f3 rfl rfl rfl rfl rfl rfl rfl ⟨rfl, rfl, rfl, rfl, rfl⟩ rfl rfl rfl rfl rfl (by kernel_rfl) Try.func3 (by kernel_rfl)
    (of_decide_eq_true (by kernel_rfl)) (by unfold Func.isWrapper; first | (rw [if_pos (by decide +kernel)]; kernel_rfl) | (rw [if_neg (by decide +kernel)]; exact ⟨rfl, rfl⟩))
    (fun os started H enc _ => lifted os started H enc)

theorem proved : Rows.FnTemplateInputsIsTheTemplatesOwnListSaid :=
  over
end Go.Proofs.Qxb6616260a.fnTemplateInputsIsTheTemplatesOwnList
