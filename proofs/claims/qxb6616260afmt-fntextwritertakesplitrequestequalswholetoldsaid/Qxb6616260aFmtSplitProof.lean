/-
  The proof of 'Rows.FnTextWriterTakeSplitRequestEqualsWholeToldSaid': the told and tied card.
-/
import Derived.Test.Qxb6616260aFmtSplit
import Derived.Test.Qxb6616260aFmtSplitOut
import Derived.Test.Qxb6616260aFmtTie
import Derived.Test.Qxb6616260aFmtCards
import Derived.ProofKit
import Derived.OpenShut
import Derived.Stop.JoinedAt
import Derived.Stop.JoinedTold
import Derived.Stop.Texts
import Derived.Stop.ErrReads
import Derived.Stop.LaidErr
import Derived.SevenTiedAt
namespace Go.Proofs.Qxb6616260aFmt.fnTextWriterTakeSplitRequestEqualsWhole
open Go.ChangeShapes Go.WideShapes Go.ChangeAt Go.RowKit Go.Kit
open Go.Extern.Stop Go.Stop Go.Extern
set_option linter.unusedVariables false

theorem own : ownKnob Tryf.prog.godebug = none := by kernel_rfl
theorem laidOutP : laidOutB Tryf.pinned.checked.prog = true := by kernel_rfl
theorem laidOut : laidOutB Tryf.prog = true := by kernel_rfl
theorem stops : Tryf.pinned.checked.prog.stops = ["fmt.errorf"] := by kernel_rfl
theorem stopKnobs : Tryf.pinned.checked.prog.stopKnobs = [] := by kernel_rfl
theorem quiet (os : Os) : Stop.quiet Tryf.pinned.checked.prog os := by
  intro k hk
  rw [stopKnobs] at hk
  cases hk

theorem gS : Tryf.prog.globalNamed (Rows.fnTextWriterTakeSplitRequestEqualsWholeSpec.vars.headD "") = some 0 := by kernel_rfl
theorem gSType : (Tryf.prog.globals[0]?).map (·.type) = some 28 := by kernel_rfl
theorem cells50 : Tryf.prog.cellsOf 50 = 1 := by kernel_rfl
theorem cells9 : Tryf.prog.cellsOf 9 = 1 := by kernel_rfl
theorem row48 (u : TypeId) (h : Tryf.prog.typeName? 3 u = some Tryf.t48.str) : u = 48 :=
  typeName_ptr_named (nm := "errors.errorString") (by kernel_rfl) (by kernel_rfl) (by decide) u (h.trans (by decide))

/-- A world in which the sentinel is laid, over whatever program. -/
def laidW (P : Program) (os : Os) (low : Nat) (s : ByteArray) : World :=
  let w0 := World.holding P os ⟨#[.cells #[.string s] 50], #[], []⟩
  { w0 with heap := w0.heap.modify 0 fun
      | .cells _ t frozen => .cells #[.iface 48 (.pointer (some ⟨low, 0, none⟩))] t frozen
      | o => o }

theorem laid_met (os : Os) (args : Array Value) : laidMet Tryf.prog Rows.fnTextWriterTakeSplitRequestEqualsWholeRow.laid ((laidW Tryf.prog os (World.holding Tryf.prog default ⟨#[], #[], []⟩).heap.size ⟨#[119, 111, 114, 107, 102, 108, 111, 119, 58, 32, 116, 101, 120, 116, 32, 116, 111, 111, 32, 108, 111, 110, 103]⟩).forCall (fun _ _ => 0) ⟨#[], args, []⟩).memory :=
  laidMet_of_run (ps := [.cell 0 0, .cell (World.holding Tryf.prog default ⟨#[], #[], []⟩).heap.size 0]) 8 (by kernel_rfl) (by kernel_rfl) (by kernel_rfl)

theorem var_below {P : Program} {B g : Nat} {W W' : World} {n : String} {cs : Array Value} (h : Below B W W') (hg : P.globalNamed n = some g) (hgB : g < B) (hv : W.var? P n = some cs) : W'.var? P n = some cs := by
  unfold World.var? at hv ⊢
  simp only [hg, Option.bind_some] at hv ⊢
  rw [h.block g hgB]
  exact hv

theorem walk (F : Interp) (n0 lim a b : Int) (ad : Addr) (st : ByteArray) (w : World) (hF : F.answers w.tape) (hS : Sent w ad st) (hl : lim ≤ 9223372036854775807) (hbb : b ≤ 9223372036854775807) :
    Calls Tryf.prog 4 #[.int .i64 n0, .int .i64 lim, .int .i64 a, .int .i64 b] w fun e w' => e = .returned (.bool true) ∧ Below w.heap.size w w' := by
  by_cases h0 : n0 < 0
  · exact f4_out1 n0 lim a b w (Or.inl h0)
  by_cases h1 : lim < n0
  · exact f4_out1 n0 lim a b w (Or.inr h1)
  by_cases h2 : a < 0
  · exact f4_out2 n0 lim a b w (by omega) (by omega) hbb (Or.inl h2)
  by_cases h3 : b < 0
  · exact f4_out2 n0 lim a b w (by omega) (by omega) hbb (Or.inr (Or.inl h3))
  by_cases h4 : 9223372036854775807 - b < a
  · exact f4_out2 n0 lim a b w (by omega) (by omega) hbb (Or.inr (Or.inr ⟨by omega, h4⟩))
  by_cases hA : a + b ≤ lim - n0
  · exact f4_A F n0 lim a b ad st w hF hS (by omega) (by omega) hl (by omega) (by omega) (by omega) hA
  by_cases hB : a ≤ lim - n0
  · exact f4_B F n0 lim a b ad st w hF hS (by omega) (by omega) hl (by omega) (by omega) (by omega) hB (by omega)
  by_cases hC : b ≤ 0
  · exact f4_C1 F n0 lim a b ad st w hF hS (by omega) (by omega) hl (by omega) (by omega) (by omega) (by omega) hC
  · exact f4_C2 F n0 lim a b ad st w hF hS (by omega) (by omega) hl (by omega) (by omega) (by omega) (by omega) (by omega)


set_option maxRecDepth 100000 in
theorem lifted (os : Os) (started : os.Started) (H : Type) (enc : TypeId × Value → H) :
    ReturnsInTold none {} Tryf.checked os 4 .any Input.okWide ((OpenSpec.ofChange Rows.fnTextWriterTakeSplitRequestEqualsWholeSpec).preRow enc Tryf.prog Tryf.f4 Rows.fnTextWriterTakeSplitRequestEqualsWholeRow.domain false Rows.fnTextWriterTakeSplitRequestEqualsWholeRow.laid) (fun F => ((OpenSpec.ofChange Rows.fnTextWriterTakeSplitRequestEqualsWholeSpec).at F).post enc Tryf.prog Tryf.f4 false true false false) (aloneAtReturn Tryf.prog) nothingAlways := by
  refine returnsInTold_of_row (C := Tryf.checked) (s := OpenSpec.ofChange Rows.fnTextWriterTakeSplitRequestEqualsWholeSpec) (by kernel_rfl) own started (by kernel_rfl) Tryf.func4
    (OpenSpec.witness_stopped_at (enc := enc) (C := Tryf.checked) false (laidW Tryf.prog os (World.holding Tryf.prog default ⟨#[], #[], []⟩).heap.size ⟨#[119, 111, 114, 107, 102, 108, 111, 119, 58, 32, 116, 101, 120, 116, 32, 116, 111, 111, 32, 108, 111, 110, 103]⟩) #[.int .i64 0, .int .i64 0, .int .i64 0, .int .i64 0] rfl (by kernel_rfl) (by kernel_rfl) (by kernel_rfl)
      (OpenSpec.preRow_of_B rfl 8 (by kernel_rfl) (by kernel_rfl) (laid_met os _))) ?_
  intro F W base args ds gs before _ hF hval0 hW hcnd0 _ _ hL0 _
  clear hcnd0
  have hL : laidMet Tryf.prog Rows.fnTextWriterTakeSplitRequestEqualsWholeRow.laid W := hL0
  have hval : ∀ (j : Nat) t v, Tryf.f4.params[j]? = some t → args[j]? = some v → Value.okWide Tryf.prog W .any base t v := hval0
  have hW' := hW
  obtain ⟨p, q, hA0, hV0, rfl, hfz, hnd⟩ := hW
  have hA : DataW.TrodAll enc Tryf.prog W 0 (fun _ => true) true Tryf.f4.params.toList args.toList ds p := hA0
  have hV : DataW.TrodVars enc Tryf.prog W (fun _ => true) [Rows.fnTextWriterTakeSplitRequestEqualsWholeSpec.vars.headD ""] gs q := hV0
  rw [Tryf.params4] at hA hval
  obtain ⟨v0, vs0, d0, ds0, p0, q0, hargs, rfl, rfl, h0, r0⟩ := trodAll_cons hA
  obtain ⟨v1, vs1, d1, ds1, p1, q1, rfl, rfl, rfl, h1, r1⟩ := trodAll_cons r0
  obtain ⟨v2, vs2, d2, ds2, p2, q2, rfl, rfl, rfl, h2, r2⟩ := trodAll_cons r1
  obtain ⟨v3, vs3, d3, ds3, p3, q3, rfl, rfl, rfl, h3, r3⟩ := trodAll_cons r2
  obtain ⟨rfl, rfl, rfl⟩ := trodAll_nil r3
  obtain rfl : args = #[v0, v1, v2, v3] := by cases args; simp_all
  obtain ⟨a1, s1, hv1, hc1, hs1, hz1⟩ := laid_sentinel hL gS gSType Tryf.underlying28 row48 Tryf.underlying48 Tryf.underlying50 rfl rfl Tryf.underlying9 cells50 cells9
  obtain ⟨rfl, rfl⟩ := hV.unique (vars_read1 enc gS gSType Tryf.underlying28 hv1 trivial _)
  have hg1 : W.cell? ⟨0, 0, none⟩ = some (.iface 48 (.pointer (some a1))) := by simpa using World.var?_cell gS hv1 0
  obtain ⟨x0, rfl, rfl, rfl, w0⟩ := open_int Tryf.underlying3 (hval 0 3 v0 rfl rfl) h0
  obtain ⟨x1, rfl, rfl, rfl, w1⟩ := open_int Tryf.underlying3 (hval 1 3 v1 rfl rfl) h1
  obtain ⟨x2, rfl, rfl, rfl, w2⟩ := open_int Tryf.underlying3 (hval 2 3 v2 rfl rfl) h2
  obtain ⟨x3, rfl, rfl, rfl, w3⟩ := open_int Tryf.underlying3 (hval 3 3 v3 rfl rfl) h3
  clear hA0 hV0 hval0
  refine (walk F.told x0 x1 x2 x3 a1 s1 W hF ⟨hg1, hc1⟩ (bounds_i64 w1).2 (bounds_i64 w3).2).mono fun e W' ⟨he, bel⟩ => ?_
  subst he
  refine ⟨_, rfl, _, _, _, [], _, [.cell 0 0], hW', trodAll_mk1 (shut_bool Tryf.underlying4 _), (trodAll_cons_mk (shut_int Tryf.underlying3 w0) (trodAll_cons_mk (shut_int Tryf.underlying3 w1) (trodAll_cons_mk (shut_int Tryf.underlying3 w2) (trodAll_cons_mk (shut_int Tryf.underlying3 w3) trodAll_mk0)))), ?_, bel.frame _, fun h => by cases h⟩
  exact vars_read1 enc gS gSType Tryf.underlying28 (var_below bel gS (World.block_lt_of_cell? _ _ hg1) hv1) trivial _

theorem proved : Rows.FnTextWriterTakeSplitRequestEqualsWholeToldSaid :=
  Claim7.holds_of_told_tied_any_at .later 4 Tryf.f4 "fmt.errorf" [] [] _ _ _ _ _ (by kernel_rfl) rfl rfl rfl laidOutP (by kernel_rfl) rfl ⟨rfl, rfl, rfl, rfl, rfl, rfl, rfl⟩ rfl rfl (by kernel_rfl) (by kernel_rfl) Tryf.func4 (by kernel_rfl)
    (of_decide_eq_true (by kernel_rfl)) (of_decide_eq_true (by kernel_rfl)) stops.symm rfl stopKnobs.symm (by kernel_rfl)
    (by kernel_rfl) (by kernel_rfl) (by kernel_rfl) (by kernel_rfl) (by kernel_rfl) (by kernel_rfl) (by kernel_rfl) (by kernel_rfl) (by kernel_rfl) rfl (by kernel_rfl) rfl rfl
    rfl rfl
    rfl (by kernel_rfl) (by kernel_rfl) (by kernel_rfl) (by decide) (by kernel_rfl) fnTextWriterTakeSplitRequestEqualsWhole_row_tie
    (OpenClaim.moreEntering_of (by kernel_rfl) (by kernel_rfl) (by kernel_rfl) (by kernel_rfl) (by kernel_rfl) (by kernel_rfl) (by kernel_rfl) (by kernel_rfl) (by kernel_rfl) (by kernel_rfl))
    ⟨_, WideRow.started_initial, quiet _⟩
    (fun os started _ H enc _ => lifted os started H enc)
end Go.Proofs.Qxb6616260aFmt.fnTextWriterTakeSplitRequestEqualsWhole
