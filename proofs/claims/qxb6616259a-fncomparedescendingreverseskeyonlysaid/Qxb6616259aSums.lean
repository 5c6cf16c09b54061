/-
  A Summary that came in by value, opened: its ten cells.
-/
import Derived.Test.Qxb6616259aSpan
namespace Go.Proofs.Qxb6616259a
open Go.RowKit Go.ChangeShapes Go.WideShapes Go.Deep

theorem Try.cells23 : Try.prog.cellsOf 23 = 1 := by kernel_rfl

/-- The ten cells, by what each holds. -/
structure SumIs (v : Array Value) (s0 s1 s2 : ByteArray) (a3 a4 : Option Addr) (l3 c3 l4 c4 : Nat) (i5 i6 i7 i8 i9 : Int) : Prop where
  n : v.size = 10
  z0 : s0.size ≤ maxLen
  z1 : s1.size ≤ maxLen
  z2 : s2.size ≤ maxLen
  z3 : l3 ≤ maxLen
  z4 : l4 ≤ maxLen
  k0 : v[0]? = some (.string s0)
  k1 : v[1]? = some (.string s1)
  k2 : v[2]? = some (.string s2)
  k3 : v[3]? = some (.slice a3 l3 c3)
  k4 : v[4]? = some (.slice a4 l4 c4)
  k5 : v[5]? = some (.int .i64 i5)
  k6 : v[6]? = some (.int .i64 i6)
  k7 : v[7]? = some (.int .i64 i7)
  k8 : v[8]? = some (.int .i64 i8)
  k9 : v[9]? = some (.int .i64 i9)

section
variable {H : Type} {enc : TypeId × Value → H} {w : World} {base : Nat} {spare : Nat → Bool} {held : Bool}

theorem int_val {t : TypeId} (ht : Try.prog.underlying t = some (.int .i64)) {fuel : Nat} {v : Value} {x : DataW H × List MemPlace} (h : DataW.trod enc Try.prog w base spare held fuel t [v] = some x) : ∃ n, v = .int .i64 n := by
  obtain ⟨n, hcs, _, _⟩ := DataW.trod_int ht h
  simp only [List.cons.injEq, and_true] at hcs
  exact ⟨n, hcs⟩

theorem open_sum {fuel : Nat} {v : Array Value} {x : DataW H × List MemPlace} (h : DataW.trod enc Try.prog w base spare held fuel 25 v.toList = some x) (hn : v.size = 10) :
    ∃ s0 s1 s2 a3 a4 l3 c3 l4 c4 i5 i6 i7 i8 i9, SumIs v s0 s1 s2 a3 a4 l3 c3 l4 c4 i5 i6 i7 i8 i9 := by
  obtain ⟨xs, n, _, _, _, hxl, hf⟩ := DataW.trod_struct Try.underlying25 h
  have hlen : v.toList.length = 10 := by simpa using hn
  have one : ∀ (j t : Nat), (∃ y, DataW.trod enc Try.prog w base spare held n t ((v.toList.drop j).take (Try.prog.cellsOf t)) = some y) → Try.prog.cellsOf t = 1 → j < 10 → ∃ y, DataW.trod enc Try.prog w base spare held n t [v.toList.getD j undef] = some y := by
    rintro j t ⟨y, hy⟩ h1 hj
    rw [h1, take1_drop v.toList j undef (by omega)] at hy
    exact ⟨y, hy⟩
  have at_ : ∀ (i : Nat), i < 10 → ∃ y, xs[i]? = some y := fun i hi => ⟨_, List.getElem?_eq_getElem (by rw [hxl]; exact hi)⟩
  have get : ∀ (j : Nat) (u : Value), j < 10 → v.toList.getD j undef = u → v[j]? = some u := fun j u hj hu => by
    rw [← hu, List.getD_eq_getElem?_getD, ← Array.getElem?_toList, List.getElem?_eq_getElem (by omega)]
    rfl
  obtain ⟨y0, g0⟩ := one 0 9 (by obtain ⟨y, hy⟩ := at_ 0 (by omega); exact ⟨y, (hf 0 _ rfl).trans hy⟩) Try.cells9 (by omega)
  obtain ⟨y1, g1⟩ := one 1 9 (by obtain ⟨y, hy⟩ := at_ 1 (by omega); exact ⟨y, (hf 1 _ rfl).trans hy⟩) Try.cells9 (by omega)
  obtain ⟨y2, g2⟩ := one 2 9 (by obtain ⟨y, hy⟩ := at_ 2 (by omega); exact ⟨y, (hf 2 _ rfl).trans hy⟩) Try.cells9 (by omega)
  obtain ⟨y3, g3⟩ := one 3 23 (by obtain ⟨y, hy⟩ := at_ 3 (by omega); exact ⟨y, (hf 3 _ rfl).trans hy⟩) Try.cells23 (by omega)
  obtain ⟨y4, g4⟩ := one 4 23 (by obtain ⟨y, hy⟩ := at_ 4 (by omega); exact ⟨y, (hf 4 _ rfl).trans hy⟩) Try.cells23 (by omega)
  obtain ⟨y5, g5⟩ := one 5 2 (by obtain ⟨y, hy⟩ := at_ 5 (by omega); exact ⟨y, (hf 5 _ rfl).trans hy⟩) Try.cells2 (by omega)
  obtain ⟨y6, g6⟩ := one 6 2 (by obtain ⟨y, hy⟩ := at_ 6 (by omega); exact ⟨y, (hf 6 _ rfl).trans hy⟩) Try.cells2 (by omega)
  obtain ⟨y7, g7⟩ := one 7 2 (by obtain ⟨y, hy⟩ := at_ 7 (by omega); exact ⟨y, (hf 7 _ rfl).trans hy⟩) Try.cells2 (by omega)
  obtain ⟨y8, g8⟩ := one 8 3 (by obtain ⟨y, hy⟩ := at_ 8 (by omega); exact ⟨y, (hf 8 _ rfl).trans hy⟩) Try.cells3 (by omega)
  obtain ⟨y9, g9⟩ := one 9 3 (by obtain ⟨y, hy⟩ := at_ 9 (by omega); exact ⟨y, (hf 9 _ rfl).trans hy⟩) Try.cells3 (by omega)
  obtain ⟨s0, e0, z0⟩ := str_of g0
  obtain ⟨s1, e1, z1⟩ := str_of g1
  obtain ⟨s2, e2, z2⟩ := str_of g2
  obtain ⟨a3, l3, c3, e3, z3⟩ := slice_of Try.underlying23 g3
  obtain ⟨a4, l4, c4, e4, z4⟩ := slice_of Try.underlying23 g4
  obtain ⟨i5, e5⟩ := int_val Try.underlying2 g5
  obtain ⟨i6, e6⟩ := int_val Try.underlying2 g6
  obtain ⟨i7, e7⟩ := int_val Try.underlying2 g7
  obtain ⟨i8, e8⟩ := int_val Try.underlying3 g8
  obtain ⟨i9, e9⟩ := int_val Try.underlying3 g9
  exact ⟨s0, s1, s2, a3, a4, l3, c3, l4, c4, i5, i6, i7, i8, i9, hn, z0, z1, z2, z3, z4, get 0 _ (by omega) e0, get 1 _ (by omega) e1, get 2 _ (by omega) e2, get 3 _ (by omega) e3, get 4 _ (by omega) e4, get 5 _ (by omega) e5, get 6 _ (by omega) e6, get 7 _ (by omega) e7, get 8 _ (by omega) e8, get 9 _ (by omega) e9⟩
end
end Go.Proofs.Qxb6616259a
