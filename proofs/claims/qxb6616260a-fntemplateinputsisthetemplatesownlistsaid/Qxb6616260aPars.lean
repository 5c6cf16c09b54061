/-
  A list of parameters in a block of the call's own: each element three cells: a name, no value, no source.
-/
import Derived.Test.Qxb6616260aWalks1
import Derived.Deep.MidRow
namespace Go.Proofs.Qxb6616260a
open Go.RowKit

theorem Try.info50 : (Try.prog.info? 50).map (fun i => (i.zero, i.size, i.bytes)) = some (some (.agg #[.string ByteArray.empty, .slice none 0 0, .pointer none]), 3, 48) := by kernel_rfl
theorem Try.info50s : (Try.prog.info? 50).map (·.size) = some 3 := by kernel_rfl

/-- The block g holds len parameters whose names are f. -/
def Pars (W : World) (g len : Nat) (f : Nat → ByteArray) : Prop :=
  ∃ cur : Array Value, W.heap[g]? = some (.cells cur 50 (0, 0)) ∧ cur.size = len * 3 ∧
    ∀ i, i < len → cur[i * 3]? = some (.string (f i)) ∧ cur[i * 3 + 1]? = some (.slice none 0 0) ∧ cur[i * 3 + 2]? = some (.pointer none)

theorem Pars.cell {W : World} {g len : Nat} {f : Nat → ByteArray} (h : Pars W g len f) (i : Nat) (hi : i < len) :
    W.cell? ⟨g, i * 3, none⟩ = some (.string (f i)) ∧ W.cell? ⟨g, i * 3 + 1, none⟩ = some (.slice none 0 0) ∧ W.cell? ⟨g, i * 3 + 2, none⟩ = some (.pointer none) := by
  obtain ⟨cur, hg, _, hc⟩ := h
  refine ⟨?_, ?_, ?_⟩ <;> rw [cell_of_row W g _ cur 50 (0, 0) hg]
  · exact (hc i hi).1
  · exact (hc i hi).2.1
  · exact (hc i hi).2.2

theorem Pars.free {W : World} {g len : Nat} {f : Nat → ByteArray} (h : Pars W g len f) (o : Nat) : W.frozen? ⟨g, o, none⟩ = false := by
  obtain ⟨cur, hg, _, _⟩ := h
  exact frozen_of_row W g o cur 50 hg

theorem Pars.lt {W : World} {g len : Nat} {f : Nat → ByteArray} (h : Pars W g len f) : g < W.heap.size := by
  obtain ⟨cur, hg, _, _⟩ := h
  exact (Array.getElem?_eq_some_iff.1 hg).1

theorem Pars.same {W : World} {g len : Nat} {f f' : Nat → ByteArray} (h : Pars W g len f) (he : ∀ i, i < len → f i = f' i) : Pars W g len f' := by
  obtain ⟨cur, hg, hs, hc⟩ := h
  exact ⟨cur, hg, hs, fun i hi => by rw [← he i hi]; exact hc i hi⟩

theorem Pars.later {W W' : World} {g len : Nat} {f : Nat → ByteArray} (h : Pars W g len f) (hb : Below W.heap.size W W') : Pars W' g len f := by
  have hlt := h.lt
  obtain ⟨cur, hg, hs, hc⟩ := h
  exact ⟨cur, by rw [hb.block g hlt]; exact hg, hs, hc⟩

theorem get3 {cur : Array Value} {o j : Nat} {x : Value} (hj : j < cur.size) : (cur.setIfInBounds o x)[j]? = if o = j then some x else cur[j]? := by
  rw [Array.getElem?_setIfInBounds]
  split <;> simp_all

/-- One name anew. -/
theorem Pars.setName {W : World} {g len : Nat} {f : Nat → ByteArray} (h : Pars W g len f) (k : Nat) (s : ByteArray) : Pars (W.setCell ⟨g, k * 3, none⟩ (.string s)) g len (fun i => if i = k then s else f i) := by
  obtain ⟨cur, hg, hs, hc⟩ := h
  refine ⟨cur.setIfInBounds (k * 3) (.string s), heap_setCell_same W g (k * 3) cur 50 _ hg, by simpa using hs, fun i hi => ?_⟩
  obtain ⟨h0, h1, h2⟩ := hc i hi
  have g0 := get3 (cur := cur) (o := k * 3) (j := i * 3) (x := .string s) (by omega)
  have g1 := get3 (cur := cur) (o := k * 3) (j := i * 3 + 1) (x := .string s) (by omega)
  have g2 := get3 (cur := cur) (o := k * 3) (j := i * 3 + 2) (x := .string s) (by omega)
  rw [if_neg (by omega)] at g1 g2
  refine ⟨g0.trans ?_, g1.trans h1, g2.trans h2⟩
  by_cases e : i = k
  · subst e
    rw [if_pos rfl]
    simp
  · rw [if_neg (by omega)]
    simpa [e] using h0

/-- A parameter stored whole. -/
theorem Pars.setElem {W : World} {g len : Nat} {f : Nat → ByteArray} (h : Pars W g len f) (k : Nat) (s : ByteArray) :
    Pars (W.setCells g (k * 3) [.string s, .slice none 0 0, .pointer none]) g len (fun i => if i = k then s else f i) := by
  have h1 := h.setName k s
  obtain ⟨cur, hg, hs, hc⟩ := h1
  refine ⟨(cur.setIfInBounds (k * 3 + 1) (.slice none 0 0)).setIfInBounds (k * 3 + 1 + 1) (.pointer none), ?_, by simpa using hs, fun i hi => ?_⟩
  · exact heap_setCell_same _ g (k * 3 + 1 + 1) _ 50 _ (heap_setCell_same _ g (k * 3 + 1) cur 50 _ hg)
  · obtain ⟨h0, h1, h2⟩ := hc i hi
    have step : ∀ j, j < len * 3 → ((cur.setIfInBounds (k * 3 + 1) (.slice none 0 0)).setIfInBounds (k * 3 + 1 + 1) (.pointer none))[j]? = if k * 3 + 1 + 1 = j then some (.pointer none) else if k * 3 + 1 = j then some (.slice none 0 0) else cur[j]? := fun j hj => by
      rw [get3 (by simpa [hs] using hj), get3 (by omega)]
    refine ⟨?_, ?_, ?_⟩
    · rw [step _ (by omega), if_neg (by omega), if_neg (by omega)]; exact h0
    · rw [step _ (by omega), if_neg (by omega)]
      split
      · rfl
      · exact h1
    · rw [step _ (by omega)]
      split
      · rfl
      · rw [if_neg (by omega)]; exact h2

theorem grownBy_setCells (g : Nat) : ∀ (vs : List Value) (o : Nat) (w : World), w.grownBy (w.setCells g o vs) (some g) ∧ (w.setCells g o vs).heap.size = w.heap.size
  | [], _, w => ⟨World.grownBy.refl w _, rfl⟩
  | v :: r, o, w => by
    obtain ⟨h1, h2⟩ := grownBy_setCells g r (o + 1) (w.setCell ⟨g, o, none⟩ v)
    have hz : (w.setCell ⟨g, o, none⟩ v).heap.size = w.heap.size := by simp [World.setCell]
    refine ⟨⟨h1.os, h1.tape, h1.output, by have := h1.size; rw [hz] at this; exact this, fun k hk hne => ?_⟩, h2.trans hz⟩
    show (World.setCells (w.setCell ⟨g, o, none⟩ v) g (o + 1) r).heap[k]? = _
    rw [h1.block k (by rw [hz]; exact hk) hne]
    exact Below.heap_setCell w _ v k (fun e => hne (by rw [e]))

theorem wpList_store_par {ops : Array Oper} {rest : List Oper} {op : Oper} {a : Act} {w : World} {Q : Exit → Act → World → Prop} (hgd : op.guard = none) (x y : Operand) (ho : op.op = .store 50 x y)
    (g len k : Nat) (f : Nat → ByteArray) (s : ByteArray) (hx : a.eval x = .pointer (some ⟨g, k * 3, none⟩)) (hy : a.eval y = .agg #[.string s, .slice none 0 0, .pointer none]) (hp : Pars w g len f) (hk : k < len)
    (h : ∀ w', Pars w' g len (fun i => if i = k then s else f i) → w'.heap.size = w.heap.size → w.grownBy w' (some g) → wpList Try.prog ops Q rest (a.put op.dst undef) w') : wpList Try.prog ops Q (op :: rest) a w := by
  have hc := hp.cell k hk
  refine wpList_store_mid hgd 50 x y ho g (k * 3) _ hx hy ?_ Try.info50s (by simp [Value.oneCell']) (h _ (hp.setElem k s) (grownBy_setCells g _ _ w).2 (grownBy_setCells g _ _ w).1)
  intro j hj
  refine ⟨?_, hp.free _⟩
  match j, hj with
  | 0, _ => rw [Nat.add_zero, hc.1]; rfl
  | 1, _ => rw [hc.2.1]; rfl
  | 2, _ => rw [hc.2.2]; rfl

/-- Behind 'make([]Parameter, n)'. -/
theorem pars_made {w : World} {base g n : Nat} (h : w.ownsRow base 50 3 (.slice (some ⟨g, 0, none⟩) n n) n (madeCells (Value.agg #[.string ByteArray.empty, .slice none 0 0, .pointer none]).cells (n * 3)).toList) :
    Pars w g n (fun _ => ByteArray.empty) := by
  rcases h.2 with ⟨hx, _⟩ | ⟨g2, cap, cur, hv, _, hg, hnc, _, hcs, htake⟩
  · cases hx
  · injection hv with hv1 _ hv3
    injection hv1 with hv1
    injection hv1 with hv1 _ _
    subst hv1
    subst hv3
    refine ⟨cur, hg, hcs, fun i hi => ?_⟩
    have key : ∀ j, j < n * 3 → cur[j]? = some (#[Value.string ByteArray.empty, .slice none 0 0, .pointer none][j % 3]!) := fun j hj => by
      have e : cur.toList[j]? = (madeCells (Value.agg #[.string ByteArray.empty, .slice none 0 0, .pointer none]).cells (n * 3)).toList[j]? := by
        rw [← htake, List.getElem?_take, if_pos hj]
      rw [Array.getElem?_toList, Array.getElem?_toList] at e
      rw [e]
      simp [madeCells, hj, Value.cells]
    refine ⟨?_, ?_, ?_⟩
    · rw [key _ (by omega), show i * 3 % 3 = 0 by omega]; rfl
    · rw [key _ (by omega), show (i * 3 + 1) % 3 = 1 by omega]; rfl
    · rw [key _ (by omega), show (i * 3 + 2) % 3 = 2 by omega]; rfl

end Go.Proofs.Qxb6616260a
