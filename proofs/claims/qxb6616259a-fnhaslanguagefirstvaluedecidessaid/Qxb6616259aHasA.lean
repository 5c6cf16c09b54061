/-
  The walk of FnHasLanguageStringNotNull.
-/
import Derived.Test.Qxb6616259aHasWalks
import Derived.Test.Qxb6616259aQuote
import Derived.Test.Qxb6616259aCopies
import Derived.Lib.SlBytesConst
namespace Go.Proofs.Qxb6616259a
open Go.RowKit

theorem quote_form (s : ByteArray) (w : World) (hs : s.size ≤ 1048576) :
    Calls Try.prog 24 #[.string s] w fun e w' => ∃ g n cap xs, e = .returned (.slice (some ⟨g, 0, none⟩) n cap) ∧ 1 ≤ n ∧ n ≤ 8388608 ∧ w.heap.size ≤ g ∧ g < w'.heap.size ∧ w'.cell? ⟨g, 0, none⟩ = some (.int .u8 34) ∧
      w'.ownsRow w.heap.size 5 1 (.slice (some ⟨g, 0, none⟩) n cap) n xs ∧ xs.head? = some (.int .u8 34) ∧ Below w.heap.size w w' := by
  refine (quote_any s w hs).mono ?_
  rintro e w' ⟨v, n, rfl, h1, h2, xs, hown, hhd, hb⟩
  rcases hown.2 with ⟨rfl, h0⟩ | ⟨g, cap, cur, rfl, hbg, hg, r⟩
  · omega
  · refine ⟨g, n, cap, xs, rfl, h1, h2, hbg, (hown.lt g rfl).2, ?_, hown, hhd, hb⟩
    have := hown.cells (g := g) rfl 0 (.int .u8 34) (by cases xs with | nil => simp at hhd | cons x t => simpa using hhd)
    simpa [Addr.add] using this

theorem has_yes (b g k : Nat) (len cap : Nat) (w : World) (hl : 0 < len) (hc : w.cell? ⟨b, 8, none⟩ = some (.slice (some ⟨g, k, none⟩) len cap)) (hb : w.cell? ⟨g, k, none⟩ = some (.int .u8 34)) :
    Calls Try.prog 23 #[.pointer (some ⟨b, 0, none⟩)] w fun e w' => e = .returned (.bool true) ∧ w' = w :=
  has_one b 0 g k len cap 34 w hl hc hb

theorem has_no (b g k : Nat) (len cap : Nat) (w : World) (hl : 0 < len) (hc : w.cell? ⟨b, 8, none⟩ = some (.slice (some ⟨g, k, none⟩) len cap)) (hb : w.cell? ⟨g, k, none⟩ = some (.int .u8 110)) :
    Calls Try.prog 23 #[.pointer (some ⟨b, 0, none⟩)] w fun e w' => e = .returned (.bool false) ∧ w' = w :=
  has_one b 0 g k len cap 110 w hl hc hb

set_option maxHeartbeats 1000000 in
theorem snn_walk (b o : Nat) (s : ByteArray) (cs : List Value) (a8 : Option Addr) (l8 c8 : Nat) (w : World)
    (z : s.size ≤ maxLen) (hcs : w.rangeAt b o cs) (hlen : cs.length = 18) (hone : ∀ v ∈ cs, v.oneCell' = true)
    (hsp : Calls Try.prog 19 #[.int .i64 0, .pointer (some ⟨b, o, none⟩)] w fun e w' => ∃ r : Int, e = .returned (.int .i64 r) ∧ 0 ≤ r ∧ r ≤ 1048577 ∧ Hid (r ≤ 1048576 → l8 ≤ 1048576) ∧ w' = w)
    (k8 : w.cell? ⟨b, o + 8, none⟩ = some (.slice a8 l8 c8))
    (d : Bool) (hd : ∀ (x y : Nat) (W : World), Below w.heap.size w W → W.cell? ⟨x, y + 8, none⟩ = some (.slice a8 l8 c8) → Calls Try.prog 23 #[.pointer (some ⟨x, y, none⟩)] W fun e w' => e = .returned (.bool d) ∧ w' = W) :
    Calls Try.prog 8 #[.pointer (some ⟨b, o, none⟩), .string s] w fun e w' => e = .returned (.bool true) ∧ Below w.heap.size w w' := by
  unfold maxLen at *
  have HD := hid hd
  have HS := hid hsp
  have HC := hid hcs
  have HO := hid hone
  have HL := hid hlen
  clear hd hsp hcs hone hlen
  go_enter Try.func8, Try.ntmps8
  go_wp2_with (first
   | (go_at_call 19; refine HS.out.mono ?_; rintro e w' ⟨r0, rfl, hr0, hr1, hr2, hw⟩; subst w'; clear HS)
   | (go_at_call 22; refine (addLen_w _ _ _ (by omega) (by omega) (by omega) (by omega)).mono ?_; rintro e w' ⟨r, rfl, hr3, hr4, hr5, hw⟩; subst w'))
  · go_ret
    exact ⟨rfl, Below.refl _ _⟩
  · have hs : s.size ≤ 1048576 := by have h5 := hr5.out; omega
    clear hr0 hr1 hr2 hr3 hr4 hr5
    refine (HD.out b o w (Below.refl _ _) k8).mono ?_
    rintro e w' ⟨rfl, hw⟩
    subst w'
    have hb : b < w.heap.size := World.block_lt_of_cell? _ _ k8
    go_wp2_with (first
      | (refine wpList_load_mid rfl 59 (.tmp 30) rfl b o rfl cs _ (by exact World.rangeAt_alloc HC.out _) Try.underlying59 rfl (by rw [HL.out]; exact Try.info59) ?_)
      | (refine wpList_store_whole rfl 59 (.tmp 8) (.tmp 31) rfl (w.heap.size + 1) cs.toArray _ 59 rfl rfl (by exact heap_alloc2_new _ _ _) (by simp only [List.size_toArray, HL.out]; exact Try.info59) (by simp only [List.size_toArray, HL.out]; rfl) (all_oneCell_toArray HO.out) ?_; intro w1 hrow1 hsz1 hg1))
    have hz1 : w1.heap.size = w.heap.size + 2 := by rw [hsz1]; simp
    have HB1 := hid ((((Below.refl w.heap.size w).alloc (Nat.le_refl _) _).alloc (by simp) _).grown hg1 (by simp; omega) (fun k hk => by injection hk with hk; omega))
    have C0 := hid (grown_cell hg1 (cell_old (show (w.alloc _).cell? ⟨w.heap.size, 8, none⟩ = some (.slice a8 l8 c8) from by rw [cell_of_row _ w.heap.size 8 _ 59 (0, 0) (heap_alloc_new w _)]; rfl) _) (by simp))
    have HR1 := hid hrow1
    clear hrow1 hsz1 hg1
    refine (quote_form s w1 hs).mono ?_
    rintro e w2 ⟨g, n, cap, xs, rfl, hn1, hn2, hgl, hgu, hc34, _, _, hb2⟩
    obtain ⟨x1, hx1, hf1⟩ := row8 (W := w2) (g := w.heap.size + 1) (by rw [hb2.block _ (by omega)]; exact HR1.out) HL.out
    have C0' := hid (cell_later hb2 C0.out)
    have C34 := hid hc34
    have HB2 := hid (HB1.out.trans (hb2.mono (by omega)))
    have hz2 : w.heap.size + 2 < w2.heap.size := by omega
    clear C0 HR1 HB1 hb2 hc34
    have kc := fun (W : World) (C : Array Value) (i j : Nat) => Lib.run_convert_bytes_const (P := Try.prog) W 23 5 C i j Try.underlying23 Try.underlying5
    go_wp2_with (first
      | (refine wpList_load_mid rfl 59 (.tmp 36) rfl b o rfl cs _ (by exact range_below (HB2.out.setCell (by simp) _) HC.out hb) Try.underlying59 rfl (by rw [HL.out]; exact Try.info59) ?_)
      | (refine wpList_store_whole rfl 59 (.tmp 9) (.tmp 37) rfl w2.heap.size cs.toArray _ 59 rfl rfl (by exact heap_new_of (by simp) _) (by simp only [List.size_toArray, HL.out]; exact Try.info59) (by simp only [List.size_toArray, HL.out]; rfl) (all_oneCell_toArray HO.out) ?_; intro w3 hrow3 hsz3 hg3
         obtain ⟨x3, hx3, hf3⟩ := row8 hrow3 HL.out
         have hz3 : w2.heap.size < w3.heap.size := by rw [hsz3]; simp
         have D0 := hid (grown_cell hg3 (cell_old (cell_put C0'.out (by simp) _) _) (by simp; omega))
         have D1 := hid (grown_cell hg3 (cell_old (show (w2.setCell ⟨w.heap.size + 1, 8, none⟩ _).cell? ⟨w.heap.size + 1, 8, none⟩ = some _ from World.cell?_setCell_same _ _ _ hx1) _) (by simp; omega))
         have D34 := hid (grown_cell hg3 (cell_old (cell_put C34.out (by simp; omega) _) _) (by simp; omega))
         have HB3 := hid ((((HB2.out.setCell (p := ⟨w.heap.size + 1, 8, none⟩) (by simp) _).alloc (by simp; omega) _).grown hg3 (by simp; omega) (fun k hk => by injection hk with hk; omega)))
         clear hx1 hf1 hsz3 hrow3 hg3)
      | (refine wpList_load_mid rfl 59 (.tmp 42) rfl b o rfl cs _ (by exact range_below ((HB3.out.setCell (by simp; omega) _).alloc (by simp; omega) _) HC.out hb) Try.underlying59 rfl (by rw [HL.out]; exact Try.info59) ?_)
      | (refine wpList_store_whole rfl 59 (.tmp 10) (.tmp 43) rfl (w3.heap.size + 1) cs.toArray _ 59 rfl rfl (by exact heap_new_of (by simp) _) (by simp only [List.size_toArray, HL.out]; exact Try.info59) (by simp only [List.size_toArray, HL.out]; rfl) (all_oneCell_toArray HO.out) ?_; intro w4 hrow4 hsz4 hg4
         obtain ⟨x4, hx4, hf4⟩ := row8 hrow4 HL.out
         have hz4 : w3.heap.size + 1 < w4.heap.size := by rw [hsz4]; simp
         have E0 := hid (grown_cell hg4 (cell_old (cell_old (cell_put D0.out (by simp; omega) _) _) _) (by simp; omega))
         have E1 := hid (grown_cell hg4 (cell_old (cell_old (cell_put D1.out (by simp; omega) _) _) _) (by simp; omega))
         have E34 := hid (grown_cell hg4 (cell_old (cell_old (cell_put D34.out (by simp; omega) _) _) _) (by simp; omega))
         have E2 := hid (grown_cell hg4 (cell_old (cell_old (show (w3.setCell ⟨w2.heap.size, 8, none⟩ _).cell? ⟨w2.heap.size, 8, none⟩ = some _ from World.cell?_setCell_same _ _ _ hx3) _) _) (by simp; omega))
         have E110 := hid (grown_cell hg4 (cell_old (show ((w3.setCell ⟨w2.heap.size, 8, none⟩ _).alloc _).cell? ⟨w3.heap.size, 0, none⟩ = some (.int .u8 110) from by rw [cell_of_row _ w3.heap.size 0 _ 5 (4, 5) (heap_new_of (by simp) _)]; rfl) _) (by simp))
         have HB4 := hid (((((HB3.out.setCell (p := ⟨w2.heap.size, 8, none⟩) (by simp; omega) _).alloc (by simp; omega) _).alloc (by simp; omega) _).grown hg4 (by simp; omega) (fun k hk => by injection hk with hk; omega)))
         clear hx3 hf3 hsz4 hrow4 hg4))
    have F0 := hid (cell_put (p := ⟨w3.heap.size + 1, 8, none⟩) E0.out (by simp; omega) (.slice none 0 0))
    have F1 := hid (cell_put (p := ⟨w3.heap.size + 1, 8, none⟩) E1.out (by simp; omega) (.slice none 0 0))
    have F34 := hid (cell_put (p := ⟨w3.heap.size + 1, 8, none⟩) E34.out (by simp; omega) (.slice none 0 0))
    have F2 := hid (cell_put (p := ⟨w3.heap.size + 1, 8, none⟩) E2.out (by simp; omega) (.slice none 0 0))
    have F110 := hid (cell_put (p := ⟨w3.heap.size + 1, 8, none⟩) E110.out (by simp) (.slice none 0 0))
    have F3 := hid (World.cell?_setCell_same _ _ (.slice none 0 0) hx4)
    have HB5 := hid (HB4.out.setCell (p := ⟨w3.heap.size + 1, 8, none⟩) (by simp; omega) (.slice none 0 0))
    clear hx4 hf4 E0 E1 E34 E2 E110 HB4 D0 D1 D34 HB3 C0' C34 HB2 kc k8 HC HO HL
    generalize w4.setCell ⟨w3.heap.size + 1, 8, none⟩ (.slice none 0 0) = w5 at *
    refine (HD.out _ _ w5 HB5.out F0.out).mono ?_
    rintro e w' ⟨rfl, hw⟩
    subst w'
    go_wp2_with fail
    refine (has_yes _ g 0 n cap w5 (by omega) F1.out F34.out).mono ?_
    rintro e w' ⟨rfl, hw⟩
    subst w'
    go_wp2_with fail
    refine (has_no _ _ 0 4 4 w5 (by omega) F2.out F110.out).mono ?_
    rintro e w' ⟨rfl, hw⟩
    subst w'
    go_wp2_with fail
    refine (has_empty _ 0 none 0 w5 F3.out).mono ?_
    rintro e w' ⟨rfl, hw⟩
    subst w'
    go_wp2_with fail
    go_ret
    exact ⟨rfl, HB5.out⟩

end Go.Proofs.Qxb6616259a
