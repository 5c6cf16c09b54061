/-
  jsonQuote by its contract: whatever the string, what comes back is a slice of the call's own, not empty, whose first byte is the quote.
-/
import Derived.Test.Qxb6616259aRows
import Derived.WalkKit
import Derived.WalkSpells
import Derived.WalkLawsBesides
import Derived.Deep.RegionLaw
namespace Go.Proofs.Qxb6616259a
open Go.RowKit

/-- append onto a row of the call's own, as one step of a region that draws. -/
theorem step_append_own {P : Program} {ops : Array Oper} {o : Oper} {a : Act} {w : World} {K : Act → World → Prop} {Q : Exit → Act → World → Prop} {E : Prop}
    (hg : o.guard = none) (s x : Operand) (t : TypeId) (hop : o.op = Op.call { callee := Callee.builtin Builtin.append, args := #[s, x], argTypes := #[t, t] })
    (base : Nat) (e : TypeId) (i : TypeInfo) (z : Value) (size bytes : Nat) (ht : P.underlying t = some (.slice e)) (hi : P.info? e = some i) (hz : i.zero = some z)
    (hsize : i.size = size) (hby : i.bytes = bytes) (hzs : z.cells.size = size) (hsz : 0 < size)
    (v : Value) (n : Nat) (xs : List Value) (hs : a.eval s = v) (hown : w.ownsRow base e size v n xs)
    (ad : Addr) (m c : Nat) (news : List Value) (hx : a.eval x = .slice (some ad) m c) (hl : news.length = m * size) (hnews : ∀ j u, news[j]? = some u → w.cell? (ad.add j) = some u) (h1 : ∀ u ∈ news, u.oneCell' = true)
    (h63 : n + m ≤ maxLen) (hbytes : (n + m) * bytes ≤ 140737488355328) (hbase : base ≤ w.heap.size)
    (h : ∀ v' w', w'.ownsRow base e size v' (n + m) (xs ++ news) → w.grownBy w' v.ownBlock → K (a.put o.dst v') w') :
    if Region.wanted o (yielded ops a.tmps) = true then Oper.wp P o a w K Q else E := by
  have hw : Region.wanted o (yielded ops a.tmps) = true := by simp [Region.wanted, hg]
  rw [if_pos hw]
  exact wp_append_own w s x t hop base e i z size bytes ht hi hz hsize hby hzs hsz v n xs hs hown ad m c news hx hl hnews h1 h63 hbytes hbase fun v' w' h2 h3 _ => h v' w' h2 h3

/-- What the loop keeps: the slice is the call's own, and its first byte is the quote. -/
def Quoted (w wr : World) (v : Value) (n : Nat) : Prop :=
  ∃ xs : List Value, wr.ownsRow w.heap.size 5 1 v n xs ∧ xs.head? = some (.int .u8 34) ∧ Below w.heap.size w wr

theorem quoted_step {w wr wa w1 : World} {v v' : Value} {n m : Nat} {xs news : List Value}
    (hown : wr.ownsRow w.heap.size 5 1 v n xs) (hhd : xs.head? = some (.int .u8 34)) (hb : Below w.heap.size w wa) (hB : w.heap.size ≤ wa.heap.size)
    (hown' : w1.ownsRow w.heap.size 5 1 v' (n + m) (xs ++ news)) (hg : wa.grownBy w1 v.ownBlock) : Quoted w w1 v' (n + m) :=
  ⟨xs ++ news, hown', by cases xs with | nil => simp at hhd | cons x t => simpa using hhd, hb.grown hg hB (fun k hk => (hown.lt k hk).1)⟩

theorem Try.info5 : (Try.prog.info? 5).map (fun i => (i.zero, i.size, i.bytes)) = some (some (.int .u8 0), 1, 1) := by kernel_rfl

theorem cell_of_new (wr : World) (l : List Value) (t : TypeId) : ∀ (j : Nat) (u : Value), l[j]? = some u → (wr.alloc (.cells l.toArray t)).cell? ((⟨wr.heap.size, 0, none⟩ : Addr).add j) = some u := by
  intro j u hu
  have hadd : (⟨wr.heap.size, 0, none⟩ : Addr).add j = ⟨wr.heap.size, j, none⟩ := by unfold Addr.add; split <;> simp_all
  rw [hadd, cell_of_row (wr.alloc (.cells l.toArray t)) wr.heap.size j l.toArray t (0, 0) (heap_alloc_new wr _)]
  simpa using hu

theorem cell_of_new_drew (wr : World) (l : List Value) (t : TypeId) : ∀ (j : Nat) (u : Value), l[j]? = some u → ((wr.alloc (.cells l.toArray t)).drew).cell? ((⟨wr.heap.size, 0, none⟩ : Addr).add j) = some u :=
  cell_of_new wr l t

theorem six_one (a b c d e f : Int) : ∀ u ∈ [Value.int .u8 a, .int .u8 b, .int .u8 c, .int .u8 d, .int .u8 e, .int .u8 f], u.oneCell' = true := by
  intro u hu
  simp only [List.mem_cons, List.not_mem_nil, or_false] at hu
  rcases hu with rfl | rfl | rfl | rfl | rfl | rfl <;> rfl

theorem and15 : ∀ c : Fin 32, 0 ≤ bits BinOp.and IntKind.u8 ((c : Nat) : Int) 15 ∧ bits BinOp.and IntKind.u8 ((c : Nat) : Int) 15 < 16 := by decide +kernel

set_option maxHeartbeats 1000000 in
theorem quote_any (s : ByteArray) (w : World) (hs : s.size ≤ 1048576) :
    Calls Try.prog 24 #[.string s] w fun e w' => ∃ v n, e = .returned v ∧ 1 ≤ n ∧ n ≤ 8388608 ∧ Quoted w w' v n := by
  obtain ⟨i0, hi, hz0, hz1, hz2⟩ := info_parts Try.info5
  go_enter Try.func24, Try.ntmps24
  go_wp2_with (first
    | (at_make; refine wpList_make_own _ rfl _ _ 23 rfl w.heap.size 5 i0 (.int .u8 0) 1 Try.underlying23 hi hz0 hz1 .i64 .i64 _ (s.size + 2) rfl rfl (by omega) (by rw [hz2]; omega) (by unfold maxLen; omega) (Nat.le_refl _) ?_; intro w0 hown0 hgrow0)
    | (at_builtin; refine wpList_append_own _ rfl (.tmp 10) (.tmp 11) 23 rfl w.heap.size 5 i0 (.int .u8 0) 1 1 Try.underlying23 hi hz0 hz1 hz2 rfl (by decide) _ _ _ rfl (hown0.alloc _) ⟨w0.heap.size, 0, none⟩ 1 1 [.int .u8 34] rfl rfl (cell_of_new _ _ _) (by intro u hu; simp at hu; subst hu; rfl) (by unfold maxLen; omega) (by omega) (by have := hgrow0.size; simp; omega) ?_; intro v1 w1 hown1 hgrow1 hnil1))
  have hq1 : Quoted w w1 v1 1 := by
    have hsz0 := hgrow0.size
    refine ⟨_, hown1, rfl, ?_⟩
    exact (((Below.refl _ _).grown hgrow0 (Nat.le_refl _) (fun k h => by cases h)).alloc hsz0 _).grown hgrow1 (by simp; omega) (fun k hk => (hown0.lt k hk).1)
  clear hown0 hgrow0 hown1 hgrow1 hnil1
  go_loopw [3, 4] (fun v i wr => ∃ k n : Nat, k ≤ s.size ∧ i = .int .i64 k ∧ 1 ≤ n ∧ n ≤ 1 + 6 * k ∧ Quoted w wr v n) (fun _ i _ => s.size - (intOf i).toNat)
  case atStart => exact ⟨0, 1, by omega, rfl, by omega, by omega, hq1⟩
  case round =>
    obtain ⟨k, n, hk, rfl, hn1, hn2, xs, hown, hhd, hbel⟩ := hrel
    clear hq1
    have hsize := hbel.size
    by_cases hlt : k < s.size
    · have hc1 : s[k].toNat ≤ 255 := by have := s[k].toNat_lt; omega
      by_cases h34 : (s[k].toNat : Int) = 34
      · go_wp2_with (at_builtin; go_must (refine wpList_append_own _ rfl (.tmp 28) (.tmp 30) 23 rfl w.heap.size 5 i0 (.int .u8 0) 1 1 Try.underlying23 hi hz0 hz1 hz2 rfl (by decide) _ _ _ rfl (hown.alloc _) ⟨wr.heap.size, 0, none⟩ 2 2 [.int .u8 92, .int .u8 34] rfl rfl (cell_of_new _ _ _) (by intro u hu; simp at hu; rcases hu with rfl | rfl <;> rfl) (by unfold maxLen; omega) (by omega) (by simp; omega) ?_); intro v1 w1 hown1 hgrow1 hnil1)
        have Q := quoted_step hown hhd (hbel.alloc hsize _) (by simp; omega) hown1 hgrow1
        clear hown hown1 hgrow1 hnil1
        go_wp2
        go_roundw
        case rel => exact ⟨k + 1, _, by omega, by go_num, by omega, by omega, Q⟩
        case measure => simp [intOf]; omega
      by_cases h92 : (s[k].toNat : Int) = 92
      · go_wp2_with (at_builtin; go_must (refine wpList_append_own _ rfl (.tmp 28) (.tmp 30) 23 rfl w.heap.size 5 i0 (.int .u8 0) 1 1 Try.underlying23 hi hz0 hz1 hz2 rfl (by decide) _ _ _ rfl (hown.alloc _) ⟨wr.heap.size, 0, none⟩ 2 2 [.int .u8 92, .int .u8 92] rfl rfl (cell_of_new _ _ _) (by intro u hu; simp at hu; subst hu; rfl) (by unfold maxLen; omega) (by omega) (by simp; omega) ?_); intro v1 w1 hown1 hgrow1 hnil1)
        have Q := quoted_step hown hhd (hbel.alloc hsize _) (by simp; omega) hown1 hgrow1
        clear hown hown1 hgrow1 hnil1
        go_wp2
        go_roundw
        case rel => exact ⟨k + 1, _, by omega, by go_num, by omega, by omega, Q⟩
        case measure => simp [intOf]; omega
      have b34 : ((s[k].toNat : Int) == 34) = false := by simpa using h34
      have b92 : ((s[k].toNat : Int) == 92) = false := by simpa using h92
      clear h34 h92
      by_cases h32 : (s[k].toNat : Int) < 32
      · go_wp2_with fail
        have d0 : (0 : Int) ≤ (s[k].toNat : Int) / 16 := by omega
        have d1 : (s[k].toNat : Int) / 16 < 16 := by omega
        have ha := and15 ⟨s[k].toNat, by omega⟩
        have e0 : 0 ≤ bits BinOp.and IntKind.u8 (s[k].toNat : Int) 15 := ha.1
        have e1 : bits BinOp.and IntKind.u8 (s[k].toNat : Int) 15 < 16 := ha.2
        clear ha
        go_region_law (refine step_append_own rfl (.tmp 34) (.tmp 41) 23 rfl w.heap.size 5 i0 (.int .u8 0) 1 1 Try.underlying23 hi hz0 hz1 hz2 rfl (by decide) u3 n xs rfl (by exact (hown.alloc _).drew) ⟨wr.heap.size, 0, none⟩ 6 6 _ rfl rfl (cell_of_new_drew _ _ _) (six_one _ _ _ _ _ _) (by unfold maxLen; omega) (by omega) (by simp; omega) ?_; intro v1 w1 hown1 hgrow1)
        all_goals
          have Q := quoted_step hown hhd ((hbel.alloc hsize _).drew) (by simp; omega) hown1 hgrow1
          clear hown hown1 hgrow1
          go_wp2
          go_roundw
          case rel => exact ⟨k + 1, _, by omega, by go_num, by omega, by omega, Q⟩
          case measure => simp [intOf]; omega
      · go_wp2_with (at_builtin; go_must (refine wpList_append_own _ rfl (.tmp 43) (.tmp 45) 23 rfl w.heap.size 5 i0 (.int .u8 0) 1 1 Try.underlying23 hi hz0 hz1 hz2 rfl (by decide) _ _ _ rfl (hown.alloc _) ⟨wr.heap.size, 0, none⟩ 1 1 [.int .u8 s[k].toNat] rfl rfl (cell_of_new _ _ _) (by intro u hu; simp at hu; subst hu; rfl) (by unfold maxLen; omega) (by omega) (by simp; omega) ?_); intro v1 w1 hown1 hgrow1 hnil1)
        have Q := quoted_step hown hhd (hbel.alloc hsize _) (by simp; omega) hown1 hgrow1
        clear hown hown1 hgrow1 hnil1
        go_wp2
        go_roundw
        case rel => exact ⟨k + 1, _, by omega, by go_num, by omega, by omega, Q⟩
        case measure => simp [intOf]; omega
    · go_wp2_with (at_builtin; go_must (refine wpList_append_own _ rfl (.tmp 47) (.tmp 48) 23 rfl w.heap.size 5 i0 (.int .u8 0) 1 1 Try.underlying23 hi hz0 hz1 hz2 rfl (by decide) _ _ _ rfl (hown.alloc _) ⟨wr.heap.size, 0, none⟩ 1 1 [.int .u8 34] rfl rfl (cell_of_new _ _ _) (by intro u hu; simp at hu; subst hu; rfl) (by unfold maxLen; omega) (by omega) (by simp; omega) ?_); intro v1 w1 hown1 hgrow1 hnil1)
      have Q := quoted_step hown hhd (hbel.alloc hsize _) (by simp; omega) hown1 hgrow1
      go_wp2
      go_ret
      exact ⟨_, _, rfl, by omega, by omega, Q⟩

end Go.Proofs.Qxb6616259a
