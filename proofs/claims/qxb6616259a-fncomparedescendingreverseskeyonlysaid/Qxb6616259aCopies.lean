/-
  Laws on copies of a struct: a whole struct stored into a block of the call's own; one field of it stored anew. The world behind each is left open.
-/
import Derived.Test.Qxb6616259aRows
import Derived.WalkKit
import Derived.WalkSpells
import Derived.WalkLawsBesides
import Derived.Deep.MidRow
namespace Go.Proofs.Qxb6616259a
open Go.RowKit

theorem Try.info59 : (Try.prog.info? 59).map (·.size) = some 18 := by kernel_rfl

theorem hid {p : Prop} (h : p) : Hid p := h

section
variable {P : Program}

theorem grownBy_setRow (w : World) (g : Nat) (cs : Array Value) : w.grownBy (w.setRow g cs) (some g) :=
  ⟨rfl, rfl, rfl, by simp, fun k _ hne => setRow_other w g k cs (fun e => hne (by rw [e]))⟩

/-- A whole struct goes into a block of the call's own. -/
theorem wpList_store_whole {ops : Array Oper} {rest : List Oper} {op : Oper} {a : Act} {w : World} {Q : Exit → Act → World → Prop} (hgd : op.guard = none) (ty : TypeId) (x y : Operand) (ho : op.op = .store ty x y)
    (g : Nat) (cells old : Array Value) (t : TypeId) (hx : a.eval x = .pointer (some ⟨g, 0, none⟩)) (hy : a.eval y = .agg cells)
    (hg : w.heap[g]? = some (.cells old t (0, 0))) (hi : (P.info? ty).map (·.size) = some cells.size) (hold : old.size = cells.size) (h1 : cells.all (·.oneCell') = true)
    (h : ∀ w', w'.heap[g]? = some (.cells cells t (0, 0)) → w'.heap.size = w.heap.size → w.grownBy w' (some g) → wpList P ops Q rest (a.put op.dst undef) w') : wpList P ops Q (op :: rest) a w := by
  refine wpList_plain hgd fun _ hK => ?_
  unfold Oper.wp execOp
  simp only [ho, hx, hy, Instr.storeAt, Instr.sureAddr, Sem.run_bind, Sem.run_pure, Result.andThen_ok, run_storeVar_row w g t ty old cells hg hi hold h1]
  exact hK _ _ (h _ (setRow_heap w g old cells t _ hg) (by simp) (grownBy_setRow w g cells))
end

/-- What a cell of another block holds stays. -/
theorem grown_cell {w w' : World} {g : Nat} {a : Addr} {v : Value} (hg : w.grownBy w' (some g)) (h : w.cell? a = some v) (hne : a.block ≠ g) : w'.cell? a = some v :=
  hg.cell h (fun e => hne (by simpa using e))

theorem grownBy_setCell (w : World) (g i : Nat) (v : Value) : w.grownBy (w.setCell ⟨g, i, none⟩ v) (some g) :=
  ⟨rfl, rfl, rfl, by simp [World.setCell], fun k _ hne => Below.heap_setCell w _ v k (fun e => hne (by rw [e]))⟩

/-- A range that lies below B lies there in whatever world is 'Below' B. -/
theorem range_below {B : Nat} {w w' : World} (hb : Below B w w') {b o : Nat} {cs : List Value} (h : w.rangeAt b o cs) (hB : b < B) : w'.rangeAt b o cs :=
  fun j v hv => (hb.cell (p := ⟨b, o + j, none⟩) hB).trans (h j v hv)

theorem heap_new_of {W : World} {n : Nat} (h : W.heap.size = n) (o : Obj) : (W.alloc o).heap[n]? = some o := by
  subst h; exact heap_alloc_new W o

theorem cell_old {W : World} {a : Addr} {v : Value} (h : W.cell? a = some v) (o : Obj) : (W.alloc o).cell? a = some v := by
  rw [World.cell?_alloc_lt _ _ _ (World.block_lt_of_cell? W _ h)]; exact h

theorem cell_put {W : World} {a p : Addr} {v : Value} (h : W.cell? a = some v) (hne : a.block ≠ p.block) (V : Value) : (W.setCell p V).cell? a = some v := by
  rw [World.cell?_of_block (w := W) (Below.heap_setCell W p V a.block hne)]; exact h

/-- Cell 8 of a struct that lies whole in a block of its own; and it may be written. -/
theorem row8 {W : World} {g : Nat} {cs : List Value} {t : TypeId} (h : W.heap[g]? = some (.cells cs.toArray t (0, 0))) (hlen : cs.length = 18) : ∃ v, W.cell? ⟨g, 8, none⟩ = some v ∧ W.frozen? ⟨g, 8, none⟩ = false :=
  ⟨cs[8], by rw [cell_of_row W g 8 _ t _ h]; simp [hlen], frozen_of_row W g 8 _ t h⟩

end Go.Proofs.Qxb6616259a
