/-
  append(x, lang...) where lang is a slice of bytes of another named type: what the laws of hasLanguage want of it: a slice that is not empty, whose first byte is x's.
-/
import Derived.Test.Qxb6616259aSpan
import Derived.Test.Qxb6616259aQuote
import Derived.ArgAppend
namespace Go.Proofs.Qxb6616259a
open Go.RowKit

/-- A row of the call's own that is not empty, by its first cell. -/
theorem own_form {w : World} {base n : Nat} {v c : Value} {xs : List Value} (hown : w.ownsRow base 5 1 v n xs) (hn : 1 ≤ n) (hhd : xs.head? = some c) :
    ∃ g cap, v = .slice (some ⟨g, 0, none⟩) n cap ∧ base ≤ g ∧ g < w.heap.size ∧ w.cell? ⟨g, 0, none⟩ = some c := by
  rcases hown.2 with ⟨_, h0⟩ | ⟨g, cap, cur, rfl, hbg, hg, r⟩
  · omega
  · refine ⟨g, cap, rfl, hbg, (hown.lt g rfl).2, ?_⟩
    have := hown.cells (g := g) rfl 0 c (by cases xs with | nil => simp at hhd | cons x t => simpa using hhd)
    simpa [Addr.add] using this

section
variable {P : Program}

/-- The second slice's own type name does not matter. -/
theorem append_types {t u e e' ty : TypeId} {i : TypeInfo} (ht : P.underlying t = some (.slice e)) (hu : P.underlying u = some (.slice e')) (hi : P.info? e = some i) (bs : Option Addr) (n cap : Nat) (x : Value) (w : World) :
    (Builtin.append_ #[t, u] ty #[.slice bs n cap, x]).run P w = (Builtin.append_ #[t, t] ty #[.slice bs n cap, x]).run P w := by
  simp [Builtin.append_, run_underlying ht, run_underlying hu, sizeOf, typeInfo, hi]

/-- Nothing is appended: the slice stays, the world stands. -/
theorem append_empty {t ty e : TypeId} {i : TypeInfo} (ht : P.underlying t = some (.slice e)) (hi : P.info? e = some i) (base : Option Addr) (n cap : Nat) (ax : Option Addr) (cx : Nat) (h : n ≤ cap) (w : World) :
    (Builtin.append_ #[t, t] ty #[.slice base n cap, .slice ax 0 cx]).run P w = .ok (.slice base n cap) w := by
  cases ax <;> cases base <;> simp [Builtin.append_, run_underlying ht, sizeOf, typeInfo, hi, Builtin.lenOf, Builtin.firstCells, h, storeCells, loadCells, loadCellsFrom]
end

theorem news_of {w : World} {g k l8 : Nat} {zs : List Int} (hc : ∀ j, j < l8 → w.cell? ⟨g, k + j, none⟩ = some (.int .u8 (zs.getD j 0))) :
    let news := (List.range l8).map fun j => Value.int .u8 (zs.getD j 0)
    news.length = l8 * 1 ∧ (∀ j u, news[j]? = some u → w.cell? ((⟨g, k, none⟩ : Addr).add j) = some u) ∧ ∀ u ∈ news, u.oneCell' = true := by
  refine ⟨by simp, fun j u hu => ?_, fun u hu => ?_⟩
  · have hj : j < l8 := by
      rcases Nat.lt_or_ge j l8 with h | h
      · exact h
      · rw [List.getElem?_eq_none (by simp; omega)] at hu; cases hu
    rw [Addr.add_mid, hc j hj]
    simpa [List.getElem?_range hj] using hu
  · obtain ⟨j, _, rfl⟩ := List.mem_map.1 hu
    rfl

theorem head_append {xs ys : List Value} {c : Value} (h : xs.head? = some c) : (xs ++ ys).head? = some c := by
  cases xs with | nil => simp at h | cons x t => simpa using h

/-- 'append(x, lang...)', x a row of the call's own. -/
theorem wpList_lead {ops : Array Oper} {rest : List Oper} {o : Oper} {a : Act} {w : World} {Q : Exit → Act → World → Prop} (hgd : o.guard = none) (s x : Operand)
    (ho : o.op = .call { callee := .builtin .append, args := #[s, x], argTypes := #[23, 40] })
    (base g n cap : Nat) (xs : List Value) (c : Value) (hs : a.eval s = .slice (some ⟨g, 0, none⟩) n cap) (hown : w.ownsRow base 5 1 (.slice (some ⟨g, 0, none⟩) n cap) n xs) (hn : 1 ≤ n) (hn2 : n ≤ 8388608) (hhd : xs.head? = some c)
    (hbase : base ≤ w.heap.size) (a8 : Option Addr) (l8 c8 : Nat) (hx : a.eval x = .slice a8 l8 c8) (hL : Lang w a8 l8 c8) (hl8 : l8 ≤ 1048576)
    (h : ∀ G L C w', 0 < L → base ≤ G → G < w'.heap.size → w'.cell? ⟨G, 0, none⟩ = some c → w.grownBy w' (some g) → wpList Try.prog ops Q rest (a.put o.dst (.slice (some ⟨G, 0, none⟩) L C)) w') : wpList Try.prog ops Q (o :: rest) a w := by
  obtain ⟨i0, hi, hz0, hz1, hz2⟩ := info_parts Try.info5
  refine wpList_plain hgd fun K hK => ?_
  obtain ⟨_, _, _, h4⟩ := hL
  obtain ⟨g', cap', hv, hbg, hlt, hcell⟩ := own_form hown hn hhd
  injection hv with hv1 _ hv3
  injection hv1 with hv1
  injection hv1 with hv1 _ _
  subst hv1
  subst hv3
  rcases Nat.eq_zero_or_pos l8 with h0 | hp
  · subst h0
    have hncap : n ≤ cap := by
      rcases hown.2 with ⟨hx, _⟩ | ⟨g2, cap2, cur, hv, _, _, hnc, _⟩
      · cases hx
      · injection hv with _ _ hv3
        subst hv3
        exact hnc
    unfold Oper.wp execOp
    simp only [ho, resolve, invoke, builtin, Sem.run_bind, Sem.run_pure, Result.andThen_ok, List.map_toArray, List.map_cons, List.map_nil, hs, hx, append_types Try.underlying23 Try.underlying40 hi, append_empty Try.underlying23 hi _ n cap a8 c8 hncap]
    exact hK _ _ (h _ _ _ w hn hbg hlt hcell (World.grownBy.refl w _))
  · obtain ⟨ga, ka, zs, rfl, hc⟩ := h4 hp
    obtain ⟨q1, q2, q3⟩ := news_of hc
    obtain ⟨v', w', hr, hown', hgr, _⟩ := run_append_own (P := Try.prog) w base 23 o.type 5 i0 (.int .u8 0) 1 1 Try.underlying23 hi hz0 hz1 hz2 rfl (by decide) _ n xs hown ⟨ga, ka, none⟩ l8 c8 _ q1 q2 q3 (by unfold maxLen; omega) (by omega) hbase
    obtain ⟨G, C, rfl, h1, h2, h3⟩ := own_form hown' (by omega) (head_append hhd)
    unfold Oper.wp execOp
    simp only [ho, resolve, invoke, builtin, Sem.run_bind, Sem.run_pure, Result.andThen_ok, List.map_toArray, List.map_cons, List.map_nil, hs, hx, append_types Try.underlying23 Try.underlying40 hi, hr]
    exact hK _ _ (h _ _ _ w' (by omega) h1 h2 h3 hgr)

/-- 'append([]byte("null"), lang...)'. -/
theorem wpList_nullLead {ops : Array Oper} {rest : List Oper} {o : Oper} {a : Act} {w : World} {Q : Exit → Act → World → Prop} (hgd : o.guard = none) (s x : Operand)
    (ho : o.op = .call { callee := .builtin .append, args := #[s, x], argTypes := #[23, 40] })
    (g : Nat) (olds : List Value) (c : Value) (hs : a.eval s = .slice (some ⟨g, 0, none⟩) 4 4) (hlo : olds.length = 4) (holds : ∀ j u, olds[j]? = some u → w.cell? ((⟨g, 0, none⟩ : Addr).add j) = some u) (hhd : olds.head? = some c)
    (a8 : Option Addr) (l8 c8 : Nat) (hx : a.eval x = .slice a8 l8 c8) (hL : Lang w a8 l8 c8) (hl8 : l8 ≤ 1048576)
    (h : ∀ G L C w', 0 < L → g ≤ G → G < w'.heap.size → w'.cell? ⟨G, 0, none⟩ = some c → w.grownBy w' none → wpList Try.prog ops Q rest (a.put o.dst (.slice (some ⟨G, 0, none⟩) L C)) w') : wpList Try.prog ops Q (o :: rest) a w := by
  obtain ⟨i0, hi, hz0, hz1, hz2⟩ := info_parts Try.info5
  refine wpList_plain hgd fun K hK => ?_
  obtain ⟨_, _, _, h4⟩ := hL
  have hcell : w.cell? ⟨g, 0, none⟩ = some c := by
    have := holds 0 c (by cases olds with | nil => simp at hhd | cons x t => simpa using hhd)
    simpa [Addr.add] using this
  rcases Nat.eq_zero_or_pos l8 with h0 | hp
  · subst h0
    unfold Oper.wp execOp
    simp only [ho, resolve, invoke, builtin, Sem.run_bind, Sem.run_pure, Result.andThen_ok, List.map_toArray, List.map_cons, List.map_nil, hs, hx, append_types Try.underlying23 Try.underlying40 hi, append_empty Try.underlying23 hi _ 4 4 a8 c8 (Nat.le_refl _)]
    exact hK _ _ (h _ _ _ w (by omega) (Nat.le_refl _) (World.block_lt_of_cell? _ _ hcell) hcell (World.grownBy.refl w _))
  · obtain ⟨ga, ka, zs, rfl, hc⟩ := h4 hp
    obtain ⟨q1, q2, q3⟩ := news_of hc
    obtain ⟨v', w', hr, hown', hgr⟩ := run_append_arg_grows (P := Try.prog) w 23 o.type 5 i0 (.int .u8 0) 1 1 Try.underlying23 hi hz0 hz1 hz2 rfl (by decide) ⟨g, 0, none⟩ 4 4 olds (by omega) holds ⟨ga, ka, none⟩ l8 c8 _ q1 q2 (by omega) (by unfold maxLen; omega) (by omega)
    obtain ⟨G, C, rfl, h1, h2, h3⟩ := own_form hown' (by omega) (head_append hhd)
    have hgl := World.block_lt_of_cell? _ _ hcell
    unfold Oper.wp execOp
    simp only [ho, resolve, invoke, builtin, Sem.run_bind, Sem.run_pure, Result.andThen_ok, List.map_toArray, List.map_cons, List.map_nil, hs, hx, append_types Try.underlying23 Try.underlying40 hi, hr]
    exact hK _ _ (h _ _ _ w' (by omega) (by simp at hgl; omega) h2 h3 hgr)

end Go.Proofs.Qxb6616259a
