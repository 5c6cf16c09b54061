/-
  The proof of 'Rows.FnTextWriterTakeTakesTheRequestsUpToItsBoundToldSaid': the told and tied card.
-/
import Derived.Test.Qxb6616260aFmtReqs
import Derived.Test.Qxb6616260aFmtTie
import Derived.Test.Qxb6616260aFmtCards
import Derived.ProofKit
import Derived.OpenShut
import Derived.Stop.JoinedAt
import Derived.Stop.JoinedTold
import Derived.Stop.Texts
import Derived.Stop.ErrReads
import Derived.Stop.LaidErr
import Derived.SevenTiedAt
namespace Go.Proofs.Qxb6616260aFmt.fnTextWriterTakeTakesTheRequestsUpToItsBound
open Go.ChangeShapes Go.WideShapes Go.ChangeAt Go.RowKit Go.Kit
open Go.Extern.Stop Go.Stop Go.Extern
set_option linter.unusedVariables false

theorem own : ownKnob Tryf.prog.godebug = none := by kernel_rfl
theorem laidOutP : laidOutB Tryf.pinned.checked.prog = true := by kernel_rfl
theorem laidOut : laidOutB Tryf.prog = true := by kernel_rfl
theorem stops : Tryf.pinned.checked.prog.stops = ["fmt.errorf"] := by kernel_rfl
theorem stopKnobs : Tryf.pinned.checked.prog.stopKnobs = [] := by kernel_rfl
theorem quiet (os : Os) : Stop.quiet Tryf.pinned.checked.prog os := by
  intro k hk
  rw [stopKnobs] at hk
  cases hk

theorem gS : Tryf.prog.globalNamed (Rows.fnTextWriterTakeTakesTheRequestsUpToItsBoundSpec.vars.headD "") = some 0 := by kernel_rfl
theorem gSType : (Tryf.prog.globals[0]?).map (·.type) = some 28 := by kernel_rfl
theorem cells50 : Tryf.prog.cellsOf 50 = 1 := by kernel_rfl
theorem cells9 : Tryf.prog.cellsOf 9 = 1 := by kernel_rfl
theorem row48 (u : TypeId) (h : Tryf.prog.typeName? 3 u = some Tryf.t48.str) : u = 48 :=
  typeName_ptr_named (nm := "errors.errorString") (by kernel_rfl) (by kernel_rfl) (by decide) u (h.trans (by decide))

/-- A world in which the sentinel is laid, over whatever program. -/
def laidW (P : Program) (os : Os) (low : Nat) (s : ByteArray) : World :=
  let w0 := World.holding P os ⟨#[.cells #[.string s] 50], #[], []⟩
  { w0 with heap := w0.heap.modify 0 fun
      | .cells _ t frozen => .cells #[.iface 48 (.pointer (some ⟨low, 0, none⟩))] t frozen
      | o => o }

theorem laid_met (os : Os) (args : Array Value) : laidMet Tryf.prog Rows.fnTextWriterTakeTakesTheRequestsUpToItsBoundRow.laid ((laidW Tryf.prog os (World.holding Tryf.prog default ⟨#[], #[], []⟩).heap.size ⟨#[119, 111, 114, 107, 102, 108, 111, 119, 58, 32, 116, 101, 120, 116, 32, 116, 111, 111, 32, 108, 111, 110, 103]⟩).forCall (fun _ _ => 0) ⟨#[], args, []⟩).memory :=
  laidMet_of_run (ps := [.cell 0 0, .cell (World.holding Tryf.prog default ⟨#[], #[], []⟩).heap.size 0]) 8 (by kernel_rfl) (by kernel_rfl) (by kernel_rfl)

theorem var_below {P : Program} {B g : Nat} {W W' : World} {n : String} {cs : Array Value} (h : Below B W W') (hg : P.globalNamed n = some g) (hgB : g < B) (hv : W.var? P n = some cs) : W'.var? P n = some cs := by
  unfold World.var? at hv ⊢
  simp only [hg, Option.bind_some] at hv ⊢
  rw [h.block g hgB]
  exact hv



set_option maxRecDepth 100000 in
theorem lifted (os : Os) (started : os.Started) (H : Type) (enc : TypeId × Value → H) :
    ReturnsInTold none {} Tryf.checked os 3 .any Input.okWide ((OpenSpec.ofChange Rows.fnTextWriterTakeTakesTheRequestsUpToItsBoundSpec).preRow enc Tryf.prog Tryf.f3 Rows.fnTextWriterTakeTakesTheRequestsUpToItsBoundRow.domain false Rows.fnTextWriterTakeTakesTheRequestsUpToItsBoundRow.laid) (fun F => ((OpenSpec.ofChange Rows.fnTextWriterTakeTakesTheRequestsUpToItsBoundSpec).at F).post enc Tryf.prog Tryf.f3 false true false false) (aloneAtReturn Tryf.prog) nothingAlways := by
  refine returnsInTold_of_row (C := Tryf.checked) (s := OpenSpec.ofChange Rows.fnTextWriterTakeTakesTheRequestsUpToItsBoundSpec) (by kernel_rfl) own started (by kernel_rfl) Tryf.func3
    (OpenSpec.witness_stopped_at (enc := enc) (C := Tryf.checked) false (laidW Tryf.prog os (World.holding Tryf.prog default ⟨#[], #[], []⟩).heap.size ⟨#[119, 111, 114, 107, 102, 108, 111, 119, 58, 32, 116, 101, 120, 116, 32, 116, 111, 111, 32, 108, 111, 110, 103]⟩) #[.int .i64 0, .int .i64 0, .slice none 0 0] rfl (by kernel_rfl) (by kernel_rfl) (by kernel_rfl)
      (OpenSpec.preRow_of_B rfl 8 (by kernel_rfl) (by kernel_rfl) (laid_met os _))) ?_
  intro F W base args ds gs before _ hF hval0 hW hcnd0 _ _ hL0 _
  clear hcnd0
  have hL : laidMet Tryf.prog Rows.fnTextWriterTakeTakesTheRequestsUpToItsBoundRow.laid W := hL0
  have hval : ∀ (j : Nat) t v, Tryf.f3.params[j]? = some t → args[j]? = some v → Value.okWide Tryf.prog W .any base t v := hval0
  have hW' := hW
  obtain ⟨p, q, hA0, hV0, rfl, hfz, hnd⟩ := hW
  have hA : DataW.TrodAll enc Tryf.prog W 0 (fun _ => true) true Tryf.f3.params.toList args.toList ds p := hA0
  have hV : DataW.TrodVars enc Tryf.prog W (fun _ => true) [Rows.fnTextWriterTakeTakesTheRequestsUpToItsBoundSpec.vars.headD ""] gs q := hV0
  rw [Tryf.params3] at hA hval
  obtain ⟨v0, vs0, d0, ds0, p0, q0, hargs, rfl, rfl, h0, r0⟩ := trodAll_cons hA
  obtain ⟨v1, vs1, d1, ds1, p1, q1, rfl, rfl, rfl, h1, r1⟩ := trodAll_cons r0
  obtain ⟨v2, vs2, d2, ds2, p2, q2, rfl, rfl, rfl, h2, r2⟩ := trodAll_cons r1
  obtain ⟨rfl, rfl, rfl⟩ := trodAll_nil r2
  obtain rfl : args = #[v0, v1, v2] := by cases args; simp_all
  obtain ⟨a1, s1, hv1, hc1, hs1, hz1⟩ := laid_sentinel hL gS gSType Tryf.underlying28 row48 Tryf.underlying48 Tryf.underlying50 rfl rfl Tryf.underlying9 cells50 cells9
  obtain ⟨rfl, rfl⟩ := hV.unique (vars_read1 enc gS gSType Tryf.underlying28 hv1 trivial _)
  have hg1 : W.cell? ⟨0, 0, none⟩ = some (.iface 48 (.pointer (some a1))) := by simpa using World.var?_cell gS hv1 0
  obtain ⟨x0, rfl, rfl, rfl, w0⟩ := open_int Tryf.underlying3 (hval 0 3 v0 rfl rfl) h0
  obtain ⟨x1, rfl, rfl, rfl, w1⟩ := open_int Tryf.underlying3 (hval 1 3 v1 rfl rfl) h1
  obtain ⟨al2, len2, cap2, rfl⟩ := okWide_slice Tryf.underlying22 (hval 2 22 v2 rfl rfl)
  have k2 := h2
  have lt2 : ∀ x ∈ p2, x.block < W.heap.size := by obtain ⟨m, hm⟩ := k2; exact DataW.trod_lt m _ _ _ hm
  clear hA0 hV0 hval0
  have hwalk : Calls Tryf.prog 3 #[.int .i64 x0, .int .i64 x1, .slice al2 len2 cap2] W fun e w' => e = .returned (.bool true) ∧ Below W.heap.size W w' := by
    obtain ⟨fuel, hf⟩ := h2
    rcases open_ints Tryf.underlying22 Tryf.underlying3 (by kernel_rfl) hf with ⟨hcs, _⟩ | ⟨a, l, c, zs, hcs, _, hl, hm, hz, _, hcell, hwz⟩
    · simp [Value.cells] at hcs
      obtain ⟨rfl, rfl, rfl⟩ := hcs
      exact f3_any F.told x0 x1 none 0 0 (fun _ => 0) a1 s1 W hF ⟨hg1, hc1⟩ (bounds_i64 w1).2 (by omega) (fun _ => by omega) (fun h => by omega)
    · simp [Value.cells] at hcs
      obtain ⟨rfl, rfl, rfl⟩ := hcs
      have hzl : zs.length = cap2 := by simpa using hz
      refine f3_any F.told x0 x1 (some a) len2 cap2 (fun i => zs.getD i 0) a1 s1 W hF ⟨hg1, hc1⟩ (bounds_i64 w1).2 (by unfold maxLen at hm; omega) (fun i => ?_) (fun hp => ?_)
      · rcases Nat.lt_or_ge i zs.length with h | h
        · have e : zs.getD i 0 = zs[i] := by simp [List.getD, List.getElem?_eq_getElem h]
          show zs.getD i 0 ≤ _
          rw [e]; exact (bounds_i64 (hwz _ (List.getElem_mem h))).2
        · have e : zs.getD i 0 = 0 := by simp [List.getD, List.getElem?_eq_none h]
          show zs.getD i 0 ≤ _
          rw [e]; omega
      · obtain ⟨b, off, rfl, hc⟩ := ints_at hcell (by omega)
        exact ⟨b, off, rfl, fun i hi => hc i (by omega)⟩
  refine hwalk.mono fun e W' ⟨he, bel⟩ => ?_
  subst he
  refine ⟨_, rfl, _, _, _, [], _, [.cell 0 0], hW', trodAll_mk1 (shut_bool Tryf.underlying4 _), (trodAll_cons_mk (shut_int Tryf.underlying3 w0) (trodAll_cons_mk (shut_int Tryf.underlying3 w1) (trodAll_cons_mk (Below.trod laidOut (by kernel_rfl) (of_decide_eq_true (by kernel_rfl)) k2 bel lt2) trodAll_mk0))), ?_, bel.frame _, fun h => by cases h⟩
  exact vars_read1 enc gS gSType Tryf.underlying28 (var_below bel gS (World.block_lt_of_cell? _ _ hg1) hv1) trivial _

theorem proved : Rows.FnTextWriterTakeTakesTheRequestsUpToItsBoundToldSaid :=
  Claim7.holds_of_told_tied_any_at .later 3 Tryf.f3 "fmt.errorf" [] [] _ _ _ _ _ (by kernel_rfl) rfl rfl rfl laidOutP (by kernel_rfl) rfl ⟨rfl, rfl, rfl, rfl, rfl, rfl, rfl⟩ rfl rfl (by kernel_rfl) (by kernel_rfl) Tryf.func3 (by kernel_rfl)
    (of_decide_eq_true (by kernel_rfl)) (of_decide_eq_true (by kernel_rfl)) stops.symm rfl stopKnobs.symm (by kernel_rfl)
    (by kernel_rfl) (by kernel_rfl) (by kernel_rfl) (by kernel_rfl) (by kernel_rfl) (by kernel_rfl) (by kernel_rfl) (by kernel_rfl) (by kernel_rfl) rfl (by kernel_rfl) rfl rfl
    rfl rfl
    rfl (by kernel_rfl) (by kernel_rfl) (by kernel_rfl) (by decide) (by kernel_rfl) fnTextWriterTakeTakesTheRequestsUpToItsBound_row_tie
    (OpenClaim.moreEntering_of (by kernel_rfl) (by kernel_rfl) (by kernel_rfl) (by kernel_rfl) (by kernel_rfl) (by kernel_rfl) (by kernel_rfl) (by kernel_rfl) (by kernel_rfl) (by kernel_rfl))
    ⟨_, WideRow.started_initial, quiet _⟩
    (fun os started _ H enc _ => lifted os started H enc)
end Go.Proofs.Qxb6616260aFmt.fnTextWriterTakeTakesTheRequestsUpToItsBound
