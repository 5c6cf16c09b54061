/-
  A *model.Span that came in, opened: nil, or a struct of 18 cells, of which the laws want: the whole range (for a copy), that each cell is one cell, what spanBytes answers, and the bytes of Language.
-/
import Derived.Test.Qxb6616259aHasWalks
import Derived.Test.Qxb6616259aCopies
import Derived.ProofKit
import Derived.OpenShut
import Derived.ShutString
import Derived.Deep.Fields
namespace Go.Proofs.Qxb6616259a
open Go.RowKit Go.ChangeShapes Go.WideShapes Go.Deep

theorem Try.cells59 : Try.prog.cellsOf 59 = 18 := by kernel_rfl
theorem Try.cells57 : Try.prog.cellsOf 57 = 7 := by kernel_rfl
theorem Try.cells9 : Try.prog.cellsOf 9 = 1 := by kernel_rfl
theorem Try.cells42 : Try.prog.cellsOf 42 = 1 := by kernel_rfl
theorem Try.cells2 : Try.prog.cellsOf 2 = 1 := by kernel_rfl
theorem Try.cells40 : Try.prog.cellsOf 40 = 1 := by kernel_rfl
theorem Try.cells5 : Try.prog.cellsOf 5 = 1 := by kernel_rfl
theorem Try.cells55 : Try.prog.cellsOf 55 = 1 := by kernel_rfl
theorem Try.cells32 : Try.prog.cellsOf 32 = 1 := by kernel_rfl
theorem Try.cells4 : Try.prog.cellsOf 4 = 1 := by kernel_rfl
theorem Try.cells3 : Try.prog.cellsOf 3 = 1 := by kernel_rfl

/-- The slice of bytes, as the laws want it: where it is not empty its cells hold bytes. -/
def Lang (w : World) (a8 : Option Addr) (l8 c8 : Nat) : Prop :=
  l8 ≤ c8 ∧ c8 ≤ maxLen ∧ (a8 = none → c8 = 0) ∧ (0 < l8 → ∃ (g k : Nat) (zs : List Int), a8 = some ⟨g, k, none⟩ ∧ ∀ j, j < l8 → w.cell? ⟨g, k + j, none⟩ = some (.int .u8 (zs.getD j 0)))

section
variable {H : Type} {enc : TypeId × Value → H} {w : World} {base : Nat} {spare : Nat → Bool} {held : Bool}

theorem trod_float {P : Program} {t : TypeId} {k : FloatKind} {fuel : Nat} {cs : List Value} {x : DataW H × List MemPlace} (ht : P.underlying t = some (.float k)) (h : DataW.trod enc P w base spare held fuel t cs = some x) :
    ∃ b, cs = [.float k b] := by
  cases fuel with
  | zero => simp [DataW.trod] at h
  | succ n =>
    unfold DataW.trod at h
    rw [ht] at h
    split at h <;> simp_all

theorem lang_of {t : TypeId} (ht : Try.prog.underlying t = some (.slice 5)) {fuel : Nat} {v : Value} {x : DataW H × List MemPlace} (h : DataW.trod enc Try.prog w base spare held fuel t [v] = some x) :
    ∃ a8 l8 c8, v = .slice a8 l8 c8 ∧ Lang w a8 l8 c8 := by
  rcases open_ints ht Try.underlying5 Try.cells5 h with ⟨hcs, _⟩ | ⟨a, len, cap, zs, hcs, _, hl, hm, hz, _, hcell, _⟩
  · simp only [List.cons.injEq, and_true] at hcs
    exact ⟨_, _, _, hcs, Nat.le_refl _, by unfold maxLen; omega, fun _ => rfl, fun h => by omega⟩
  · simp only [List.cons.injEq, and_true] at hcs
    have hle : len ≤ zs.length := by rw [hz]; split <;> omega
    refine ⟨_, _, _, hcs, hl, hm, fun h => by simp at h, fun hp => ?_⟩
    obtain ⟨g, k, rfl, hc⟩ := ints_at hcell (by omega)
    exact ⟨g, k, zs, rfl, fun j hj => hc j (by omega)⟩

theorem slice_of {t e : TypeId} (ht : Try.prog.underlying t = some (.slice e)) {fuel : Nat} {v : Value} {x : DataW H × List MemPlace} (h : DataW.trod enc Try.prog w base spare held fuel t [v] = some x) :
    ∃ a l c, v = .slice a l c ∧ l ≤ maxLen := by
  rcases DataW.trod_slice ht h with ⟨hcs, _⟩ | ⟨a, len, cap, elems, rest, n, _, hcs, _, hb, hl, hm, _⟩
  · simp only [List.cons.injEq, and_true] at hcs
    exact ⟨_, _, _, hcs, Nat.zero_le _⟩
  · simp only [List.cons.injEq, and_true] at hcs
    exact ⟨_, _, _, hcs, by omega⟩

theorem str_of {fuel : Nat} {v : Value} {x : DataW H × List MemPlace} (h : DataW.trod enc Try.prog w base spare held fuel 9 [v] = some x) : ∃ s : ByteArray, v = .string s ∧ s.size ≤ maxLen := by
  obtain ⟨s, hcs, _, hs⟩ := DataW.trod_string Try.underlying9 h
  simp only [List.cons.injEq, and_true] at hcs
  exact ⟨s, hcs, hs⟩

theorem int_of {t : TypeId} {k : IntKind} (ht : Try.prog.underlying t = some (.int k)) {fuel : Nat} {v : Value} {x : DataW H × List MemPlace} (h : DataW.trod enc Try.prog w base spare held fuel t [v] = some x) : v.oneCell' = true := by
  obtain ⟨s, hcs, _, hs⟩ := DataW.trod_int ht h
  simp only [List.cons.injEq, and_true] at hcs
  rw [hcs]; rfl

theorem float_of {t : TypeId} {k : FloatKind} (ht : Try.prog.underlying t = some (.float k)) {fuel : Nat} {v : Value} {x : DataW H × List MemPlace} (h : DataW.trod enc Try.prog w base spare held fuel t [v] = some x) : v.oneCell' = true := by
  obtain ⟨s, hcs⟩ := trod_float ht h
  simp only [List.cons.injEq, and_true] at hcs
  rw [hcs]; rfl

theorem bool_of {t : TypeId} (ht : Try.prog.underlying t = some .bool) {fuel : Nat} {v : Value} {x : DataW H × List MemPlace} (h : DataW.trod enc Try.prog w base spare held fuel t [v] = some x) : v.oneCell' = true := by
  obtain ⟨s, hcs, _⟩ := DataW.trod_bool ht h
  simp only [List.cons.injEq, and_true] at hcs
  rw [hcs]; rfl

theorem open_span {fuel : Nat} {cs0 : List Value} {x : DataW H × List MemPlace} (h : DataW.trod enc Try.prog w base spare held fuel 48 cs0 = some x) :
    cs0 = [.pointer none] ∨ ∃ (b o : Nat) (cs : List Value) (a8 : Option Addr) (l8 c8 : Nat), cs0 = [.pointer (some ⟨b, o, none⟩)] ∧ w.rangeAt b o cs ∧ cs.length = 18 ∧ (∀ v ∈ cs, v.oneCell' = true) ∧
      w.cell? ⟨b, o + 8, none⟩ = some (.slice a8 l8 c8) ∧ Lang w a8 l8 c8 ∧
      (Calls Try.prog 19 #[.int .i64 0, .pointer (some ⟨b, o, none⟩)] w fun e w' => ∃ r : Int, e = .returned (.int .i64 r) ∧ 0 ≤ r ∧ r ≤ 1048577 ∧ Hid (r ≤ 1048576 → l8 ≤ 1048576) ∧ w' = w) := by
  rcases DataW.trod_pointer Try.underlying48 h with h0 | ⟨a, cs, y, m, rfl, rfl, rfl, hcells, hy⟩
  · exact Or.inl h0.1
  right
  obtain ⟨hb, hlen, hcell⟩ := World.cells?_some hcells
  rw [Try.cells59] at hlen hcell
  obtain ⟨b, o, spot⟩ := a
  have h0 := hcell 0 (by omega)
  rw [List.getElem?_eq_getElem (by omega)] at h0
  have hspot : spot = none := by simpa [Addr.add] using World.cell?_spot h0
  subst hspot
  have hc : ∀ i, i < 18 → w.cell? ⟨b, o + i, none⟩ = some (cs.getD i undef) := fun i hi => by
    have := hcell i hi
    rw [add_plain, List.getElem?_eq_getElem (by omega)] at this
    rw [this]
    simp [List.getD, List.getElem?_eq_getElem (show i < cs.length by omega)]
  obtain ⟨xs, n, _, rfl, _, hxl, hf⟩ := DataW.trod_struct Try.underlying59 hy
  have one : ∀ (i j t : Nat), (∃ y, DataW.trod enc Try.prog w base spare held n t ((cs.drop j).take (Try.prog.cellsOf t)) = some y) → Try.prog.cellsOf t = 1 → j < 18 → ∃ y, DataW.trod enc Try.prog w base spare held n t [cs.getD j undef] = some y := by
    rintro i j t ⟨y, hy⟩ h1 hj
    rw [h1, take1_drop cs j undef (by omega)] at hy
    exact ⟨y, hy⟩
  have at_ : ∀ (i : Nat), i < 12 → ∃ y, xs[i]? = some y := fun i hi => ⟨_, List.getElem?_eq_getElem (by rw [hxl]; exact hi)⟩
  obtain ⟨y0, g0⟩ := one 0 0 9 (by obtain ⟨y, hy⟩ := at_ 0 (by omega); exact ⟨y, (hf 0 _ rfl).trans hy⟩) Try.cells9 (by omega)
  obtain ⟨y1, g1⟩ := one 1 1 9 (by obtain ⟨y, hy⟩ := at_ 1 (by omega); exact ⟨y, (hf 1 _ rfl).trans hy⟩) Try.cells9 (by omega)
  obtain ⟨y2, g2⟩ := one 2 2 9 (by obtain ⟨y, hy⟩ := at_ 2 (by omega); exact ⟨y, (hf 2 _ rfl).trans hy⟩) Try.cells9 (by omega)
  obtain ⟨y3, g3⟩ := one 3 3 9 (by obtain ⟨y, hy⟩ := at_ 3 (by omega); exact ⟨y, (hf 3 _ rfl).trans hy⟩) Try.cells9 (by omega)
  obtain ⟨y4, g4⟩ := one 4 4 9 (by obtain ⟨y, hy⟩ := at_ 4 (by omega); exact ⟨y, (hf 4 _ rfl).trans hy⟩) Try.cells9 (by omega)
  obtain ⟨y5, g5⟩ := one 5 5 42 (by obtain ⟨y, hy⟩ := at_ 5 (by omega); exact ⟨y, (hf 5 _ rfl).trans hy⟩) Try.cells42 (by omega)
  obtain ⟨y6, g6⟩ := one 6 6 2 (by obtain ⟨y, hy⟩ := at_ 6 (by omega); exact ⟨y, (hf 6 _ rfl).trans hy⟩) Try.cells2 (by omega)
  obtain ⟨y7, g7⟩ := one 7 7 2 (by obtain ⟨y, hy⟩ := at_ 7 (by omega); exact ⟨y, (hf 7 _ rfl).trans hy⟩) Try.cells2 (by omega)
  obtain ⟨y8, g8⟩ := one 8 8 40 (by obtain ⟨y, hy⟩ := at_ 8 (by omega); exact ⟨y, (hf 8 _ rfl).trans hy⟩) Try.cells40 (by omega)
  obtain ⟨y9, g9⟩ := one 9 9 40 (by obtain ⟨y, hy⟩ := at_ 9 (by omega); exact ⟨y, (hf 9 _ rfl).trans hy⟩) Try.cells40 (by omega)
  obtain ⟨y10, g10⟩ := one 10 10 9 (by obtain ⟨y, hy⟩ := at_ 10 (by omega); exact ⟨y, (hf 10 _ rfl).trans hy⟩) Try.cells9 (by omega)
  obtain ⟨u, hu0⟩ := at_ 11 (by omega)
  have hu : DataW.trod enc Try.prog w base spare held n 57 ((cs.drop 11).take (Try.prog.cellsOf 57)) = some u := (hf 11 _ rfl).trans hu0
  rw [Try.cells57] at hu
  obtain ⟨us, n', _, rfl, _, hul, hg⟩ := DataW.trod_struct Try.underlying57 hu
  have two : ∀ (i j t : Nat), (∃ y, DataW.trod enc Try.prog w base spare held n' t ((((cs.drop 11).take 7).drop j).take (Try.prog.cellsOf t)) = some y) → Try.prog.cellsOf t = 1 → j < 7 → ∃ y, DataW.trod enc Try.prog w base spare held n' t [cs.getD (11 + j) undef] = some y := by
    rintro i j t ⟨y, hy⟩ h1 hj
    rw [h1, take1_drop _ j undef (by simp; omega)] at hy
    refine ⟨y, ?_⟩
    rw [← hy]
    congr 2
    simp only [List.getD_eq_getElem?_getD, List.getElem?_take, List.getElem?_drop, if_pos hj]
  have at2 : ∀ (i : Nat), i < 7 → ∃ y, us[i]? = some y := fun i hi => ⟨_, List.getElem?_eq_getElem (by rw [hul]; exact hi)⟩
  obtain ⟨v0, q0⟩ := two 0 0 55 (by obtain ⟨y, hy⟩ := at2 0 (by omega); exact ⟨y, (hg 0 _ rfl).trans hy⟩) Try.cells55 (by omega)
  obtain ⟨v1, q1⟩ := two 1 1 32 (by obtain ⟨y, hy⟩ := at2 1 (by omega); exact ⟨y, (hg 1 _ rfl).trans hy⟩) Try.cells32 (by omega)
  obtain ⟨v2, q2⟩ := two 2 2 4 (by obtain ⟨y, hy⟩ := at2 2 (by omega); exact ⟨y, (hg 2 _ rfl).trans hy⟩) Try.cells4 (by omega)
  obtain ⟨v3, q3⟩ := two 3 3 32 (by obtain ⟨y, hy⟩ := at2 3 (by omega); exact ⟨y, (hg 3 _ rfl).trans hy⟩) Try.cells32 (by omega)
  obtain ⟨v4, q4⟩ := two 4 4 32 (by obtain ⟨y, hy⟩ := at2 4 (by omega); exact ⟨y, (hg 4 _ rfl).trans hy⟩) Try.cells32 (by omega)
  obtain ⟨v5, q5⟩ := two 5 5 32 (by obtain ⟨y, hy⟩ := at2 5 (by omega); exact ⟨y, (hg 5 _ rfl).trans hy⟩) Try.cells32 (by omega)
  obtain ⟨v6, q6⟩ := two 6 6 3 (by obtain ⟨y, hy⟩ := at2 6 (by omega); exact ⟨y, (hg 6 _ rfl).trans hy⟩) Try.cells3 (by omega)
  obtain ⟨s0, e0, z0⟩ := str_of g0
  obtain ⟨s1, e1, z1⟩ := str_of g1
  obtain ⟨s2, e2, z2⟩ := str_of g2
  obtain ⟨s3, e3, z3⟩ := str_of g3
  obtain ⟨s4, e4, z4⟩ := str_of g4
  obtain ⟨s10, e10, z10⟩ := str_of g10
  obtain ⟨a8, l8, c8, e8, hL⟩ := lang_of Try.underlying40 g8
  obtain ⟨a9, l9, c9, e9, z9⟩ := slice_of Try.underlying40 g9
  obtain ⟨a11, l11, c11, e11, z11⟩ := slice_of Try.underlying55 q0
  have p5 := int_of Try.underlying42 g5
  have p6 := int_of Try.underlying2 g6
  have p7 := int_of Try.underlying2 g7
  have p12 := float_of Try.underlying32 q1
  have p13 := bool_of Try.underlying4 q2
  have p14 := float_of Try.underlying32 q3
  have p15 := float_of Try.underlying32 q4
  have p16 := float_of Try.underlying32 q5
  have p17 := int_of Try.underlying3 q6
  refine ⟨b, o, cs, a8, l8, c8, rfl, ?_, hlen, ?_, by rw [hc 8 (by omega), e8], hL, ?_⟩
  · intro j v hv
    have hj : j < cs.length := (List.getElem?_eq_some_iff.1 hv).1
    rw [hc j (by omega)]
    simp [List.getD, hv]
  · have key : ∀ i, i < 18 → (cs.getD i undef).oneCell' = true := by
      intro i hi
      match i, hi with
      | 0, _ => rw [e0]; rfl
      | 1, _ => rw [e1]; rfl
      | 2, _ => rw [e2]; rfl
      | 3, _ => rw [e3]; rfl
      | 4, _ => rw [e4]; rfl
      | 5, _ => exact p5
      | 6, _ => exact p6
      | 7, _ => exact p7
      | 8, _ => rw [e8]; rfl
      | 9, _ => rw [e9]; rfl
      | 10, _ => rw [e10]; rfl
      | 11, _ => rw [e11]; rfl
      | 12, _ => exact p12
      | 13, _ => exact p13
      | 14, _ => exact p14
      | 15, _ => exact p15
      | 16, _ => exact p16
      | 17, _ => exact p17
      | n + 18, h => omega
    intro v hv
    obtain ⟨i, hi, rfl⟩ := List.mem_iff_getElem.1 hv
    have := key i (by omega)
    simpa [List.getD, List.getElem?_eq_getElem hi] using this
  · have hz8 : l8 ≤ maxLen := Nat.le_trans hL.1 hL.2.1
    exact spanBytes_w b o s0 s1 s2 s3 s4 s10 a8 a9 a11 l8 c8 l9 c9 l11 c11 w z0 z1 z2 z3 z4 z10 hz8 z9 z11
      (by have := hc 0 (by omega); rw [e0] at this; exact this) (by rw [hc 1 (by omega), e1]) (by rw [hc 2 (by omega), e2]) (by rw [hc 3 (by omega), e3]) (by rw [hc 4 (by omega), e4])
      (by rw [hc 8 (by omega), e8]) (by rw [hc 9 (by omega), e9]) (by rw [hc 10 (by omega), e10]) (by rw [hc 11 (by omega)]; exact congrArg some e11)
end
end Go.Proofs.Qxb6616259a
