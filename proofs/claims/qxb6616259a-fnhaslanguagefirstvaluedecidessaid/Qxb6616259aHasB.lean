/-
  The walk of FnHasLanguageFirstValueDecides.
-/
import Derived.Test.Qxb6616259aHasA
import Derived.Test.Qxb6616259aLeads
namespace Go.Proofs.Qxb6616259a
open Go.RowKit

theorem lang_later {w W : World} {a8 : Option Addr} {l8 c8 : Nat} (hL : Lang w a8 l8 c8) (hb : Below w.heap.size w W) : Lang W a8 l8 c8 := by
  obtain ⟨h1, h2, h3, h4⟩ := hL
  refine ⟨h1, h2, h3, fun hp => ?_⟩
  obtain ⟨g, k, zs, rfl, hc⟩ := h4 hp
  exact ⟨g, k, zs, rfl, fun j hj => cell_later hb (hc j hj)⟩

theorem null_cells (W : World) : ∀ (j : Nat) (u : Value), [Value.int .u8 110, .int .u8 117, .int .u8 108, .int .u8 108][j]? = some u →
    (W.alloc (.cells #[.int .u8 110, .int .u8 117, .int .u8 108, .int .u8 108] 5 (4, 5))).cell? ((⟨W.heap.size, 0, none⟩ : Addr).add j) = some u := by
  intro j u hu
  rw [Addr.add_mid, Nat.zero_add, cell_of_row _ W.heap.size j _ 5 (4, 5) (heap_alloc_new W _)]
  simpa using hu

set_option maxHeartbeats 1000000 in
theorem fvd_zero (b o : Nat) (k : Int) (s : ByteArray) (cs : List Value) (a8 : Option Addr) (c8 : Nat) (w : World)
    (z : s.size ≤ maxLen) (hcs : w.rangeAt b o cs) (hlen : cs.length = 18) (hone : ∀ v ∈ cs, v.oneCell' = true)
    (hsp : Calls Try.prog 19 #[.int .i64 0, .pointer (some ⟨b, o, none⟩)] w fun e w' => ∃ r : Int, e = .returned (.int .i64 r) ∧ 0 ≤ r ∧ r ≤ 1048577 ∧ Hid (r ≤ 1048576 → 0 ≤ 1048576) ∧ w' = w)
    (k8 : w.cell? ⟨b, o + 8, none⟩ = some (.slice a8 0 c8)) (hL : Lang w (a8) 0 c8) :
    Calls Try.prog 9 #[.pointer (some ⟨b, o, none⟩), .int .i64 k, .string s] w fun e w' => e = .returned (.bool true) ∧ Below w.heap.size w w' := by
  unfold maxLen at z
  have HS := hid hsp
  have HC := hid hcs
  have HO := hid hone
  have HL := hid hlen
  clear hsp hcs hone hlen
  go_enter Try.func9, Try.ntmps9
  go_wp2_with (first
   | (go_at_call 19; refine HS.out.mono ?_; rintro e w' ⟨r0, rfl, hr0, hr1, hr2, hw⟩; subst w'; clear HS)
   | (go_at_call 22; refine (addLen_w _ _ _ (by omega) (by omega) (by omega) (by omega)).mono ?_; rintro e w' ⟨r, rfl, hr3, hr4, hr5, hw⟩; subst w'))
  · go_ret
    exact ⟨rfl, Below.refl _ _⟩
  · have hs : s.size ≤ 1048576 := by have h5 := hr5.out; omega
    have hl8 : 0 ≤ 1048576 := by have h5 := hr5.out; have h2 := hr2.out; omega
    clear hr0 hr1 hr2 hr3 hr4 hr5
    have hb : b < w.heap.size := World.block_lt_of_cell? _ _ k8
    refine (has_empty b o a8 c8 w k8).mono ?_
    rintro e w' ⟨rfl, hw⟩
    subst w'
    have HBt := hid (Below.refl w.heap.size w)
    have hzt : w.heap.size ≤ w.heap.size := Nat.le_refl _
    go_wp2_with (first
      | (refine wpList_load_mid rfl 59 (.tmp 57) rfl b o rfl cs _ (by exact range_below HBt.out HC.out hb) Try.underlying59 rfl (by rw [HL.out]; exact Try.info59) ?_)
      | (refine wpList_store_whole rfl 59 (.tmp 11) (.tmp 58) rfl w.heap.size cs.toArray _ 59 rfl rfl (by exact heap_new_of rfl _) (by simp only [List.size_toArray, HL.out]; exact Try.info59) (by simp only [List.size_toArray, HL.out]; rfl) (all_oneCell_toArray HO.out) ?_; intro w1 hrow1 hsz1 hg1))
    have hz1 : w1.heap.size = w.heap.size + 1 := by rw [hsz1]; simp
    have HB1 := hid ((HBt.out.alloc hzt _).grown hg1 (by simp <;> omega) (fun k hk => by injection hk with hk; omega))
    have HR1 := hid hrow1
    clear hrow1 hsz1 hg1
    refine (quote_form s w1 hs).mono ?_
    rintro e w2 ⟨g, n, cap, xs, rfl, hn1, hn2, hgl, hgu, hc34, hown, hhd, hb2⟩
    have HB2 := hid (HB1.out.trans (hb2.mono (by omega)))
    have HR2 := hid (show w2.heap[w.heap.size]? = some (.cells cs.toArray 59 (0, 0)) from by rw [hb2.block _ (by omega)]; exact HR1.out)
    have hz2 : w1.heap.size ≤ w2.heap.size := hb2.size
    have HLg2 := hid (lang_later hL HB2.out)
    have HOw := hid hown
    have HHd := hid hhd
    clear HR1 HB1 hb2 hc34 hown hhd
    have kc := fun (W : World) (C : Array Value) (i j : Nat) => Lib.run_convert_bytes_const (P := Try.prog) W 23 5 C i j Try.underlying23 Try.underlying5
    go_wp2_with (first
      | (at_builtin; refine wpList_lead rfl (.tmp 60) (.tmp 61) rfl w1.heap.size g n cap xs _ rfl HOw.out hn1 hn2 HHd.out (by omega) a8 0 c8 rfl HLg2.out hl8 ?_; intro G L C w3 hLp hG1 hG2 hGc hgr3
         obtain ⟨x3, hx3, hf3⟩ := row8 (W := w3) (g := w.heap.size) (by rw [hgr3.block _ (by omega) (fun e => by injection e with e; omega)]; exact HR2.out) HL.out
         have HB3 := hid (HB2.out.grown hgr3 (by omega) (fun k hk => by injection hk with hk; omega))
         have HGc := hid hGc
         have hz3 : w2.heap.size ≤ w3.heap.size := hgr3.size
         clear hGc hgr3 HR2 HOw HHd HLg2 HB2)
      | (refine wpList_load_mid rfl 59 (.tmp 65) rfl b o rfl cs _ (by exact range_below (HB3.out.setCell (by simp <;> omega) _) HC.out hb) Try.underlying59 rfl (by rw [HL.out]; exact Try.info59) ?_)
      | (refine wpList_store_whole rfl 59 (.tmp 12) (.tmp 66) rfl w3.heap.size cs.toArray _ 59 rfl rfl (by exact heap_new_of (by simp) _) (by simp only [List.size_toArray, HL.out]; exact Try.info59) (by simp only [List.size_toArray, HL.out]; rfl) (all_oneCell_toArray HO.out) ?_; intro w4 hrow4 hsz4 hg4
         have hz4 : w4.heap.size = w3.heap.size + 1 := by rw [hsz4]; simp
         have D1 := hid (grown_cell hg4 (cell_old (show (w3.setCell ⟨w.heap.size, 8, none⟩ _).cell? ⟨w.heap.size, 8, none⟩ = some _ from World.cell?_setCell_same _ _ _ hx3) _) (by simp <;> omega))
         have D34 := hid (grown_cell hg4 (cell_old (cell_put HGc.out (by simp <;> omega) _) _) (by simp <;> omega))
         have HB4 := hid ((((HB3.out.setCell (p := ⟨w.heap.size, 8, none⟩) (by simp <;> omega) _).alloc (by simp <;> omega) _).grown hg4 (by simp <;> omega) (fun k hk => by injection hk with hk; omega)))
         have HR4 := hid hrow4
         have hz4' : w3.heap.size < w4.heap.size := by omega
         have HZ4 := hid hz4
         clear hx3 hf3 hsz4 hrow4 hg4 HGc HB3 hz4)
      | (at_builtin; refine wpList_nullLead rfl (.tmp 68) (.tmp 69) rfl w4.heap.size [.int .u8 110, .int .u8 117, .int .u8 108, .int .u8 108] (.int .u8 110) rfl rfl (null_cells w4) rfl a8 0 c8 rfl (lang_later hL (HB4.out.alloc (by omega) _)) hl8 ?_; intro G' L' C' w5 hLp' hG1' hG2' hGc' hgr5
         obtain ⟨x5, hx5, hf5⟩ := row8 (W := w5) (g := w3.heap.size) (by rw [hgr5.block _ (by simp <;> omega) (fun e => by cases e), Below.heap_alloc _ _ _ hz4']; exact HR4.out) HL.out
         have E1 := hid (hgr5.cell (cell_old D1.out _) (fun e => by cases e))
         have E34 := hid (hgr5.cell (cell_old D34.out _) (fun e => by cases e))
         have HB5 := hid ((HB4.out.alloc (by omega) _).grown hgr5 (by simp <;> omega) (fun k hk => by cases hk))
         have HGc := hid hGc'
         have hz5 : w4.heap.size + 1 ≤ w5.heap.size := by have := hgr5.size; simpa using this
         clear hGc' hgr5 HR4 HB4 D1 D34))
    have F1 := hid (cell_put (p := ⟨w3.heap.size, 8, none⟩) E1.out (by simp <;> omega) (.slice (some ⟨G', 0, none⟩) L' C'))
    have F34 := hid (cell_put (p := ⟨w3.heap.size, 8, none⟩) E34.out (by simp <;> omega) (.slice (some ⟨G', 0, none⟩) L' C'))
    have F110 := hid (cell_put (p := ⟨w3.heap.size, 8, none⟩) HGc.out (by simp <;> omega) (.slice (some ⟨G', 0, none⟩) L' C'))
    have F2 := hid (World.cell?_setCell_same _ _ (.slice (some ⟨G', 0, none⟩) L' C') hx5)
    have HB6 := hid (HB5.out.setCell (p := ⟨w3.heap.size, 8, none⟩) (by simp <;> omega) (.slice (some ⟨G', 0, none⟩) L' C'))
    clear hx5 hf5 E1 E34 HGc HB5 kc k8 HC HO HL
    generalize w5.setCell ⟨w3.heap.size, 8, none⟩ (.slice (some ⟨G', 0, none⟩) L' C') = w6 at *
    refine (has_yes _ G 0 L C w6 hLp F1.out F34.out).mono ?_
    rintro e w' ⟨rfl, hw⟩
    subst w'
    go_wp2_with fail
    refine (has_no _ _ 0 L' C' w6 hLp' F2.out F110.out).mono ?_
    rintro e w' ⟨rfl, hw⟩
    subst w'
    go_wp2_with fail
    go_ret
    exact ⟨rfl, HB6.out⟩

set_option maxHeartbeats 1000000 in
theorem fvd_out (b o : Nat) (k : Int) (s : ByteArray) (cs : List Value) (a8 : Option Addr) (l8 c8 : Nat) (w : World) (hp : 0 < l8) (hk : k < 1 ∨ (l8 : Int) < k)
    (z : s.size ≤ maxLen) (hcs : w.rangeAt b o cs) (hlen : cs.length = 18) (hone : ∀ v ∈ cs, v.oneCell' = true)
    (hsp : Calls Try.prog 19 #[.int .i64 0, .pointer (some ⟨b, o, none⟩)] w fun e w' => ∃ r : Int, e = .returned (.int .i64 r) ∧ 0 ≤ r ∧ r ≤ 1048577 ∧ Hid (r ≤ 1048576 → l8 ≤ 1048576) ∧ w' = w)
    (k8 : w.cell? ⟨b, o + 8, none⟩ = some (.slice a8 l8 c8)) :
    Calls Try.prog 9 #[.pointer (some ⟨b, o, none⟩), .int .i64 k, .string s] w fun e w' => e = .returned (.bool true) ∧ Below w.heap.size w w' := by
  by_cases hk1 : k < 1
  all_goals
    unfold maxLen at z
    have HS := hid hsp
    have HC := hid hcs
    have HO := hid hone
    have HL := hid hlen
    clear hsp hcs hone hlen
    go_enter Try.func9, Try.ntmps9
    go_wp2_with (first
     | (go_at_call 19; refine HS.out.mono ?_; rintro e w' ⟨r0, rfl, hr0, hr1, hr2, hw⟩; subst w'; clear HS)
     | (go_at_call 22; refine (addLen_w _ _ _ (by omega) (by omega) (by omega) (by omega)).mono ?_; rintro e w' ⟨r, rfl, hr3, hr4, hr5, hw⟩; subst w'))
    · go_ret
      exact ⟨rfl, Below.refl _ _⟩
    · go_ret
      exact ⟨rfl, Below.refl _ _⟩

set_option maxHeartbeats 1000000 in
theorem fvd_cut (b o kn : Nat) (s : ByteArray) (cs : List Value) (ga ka l8 c8 : Nat) (c : Int) (w : World) (hk1 : 1 ≤ kn) (hk2 : kn ≤ l8) (hlc : l8 ≤ c8) (hfst : w.cell? ⟨ga, ka, none⟩ = some (.int .u8 c))
    (z : s.size ≤ maxLen) (hcs : w.rangeAt b o cs) (hlen : cs.length = 18) (hone : ∀ v ∈ cs, v.oneCell' = true)
    (hsp : Calls Try.prog 19 #[.int .i64 0, .pointer (some ⟨b, o, none⟩)] w fun e w' => ∃ r : Int, e = .returned (.int .i64 r) ∧ 0 ≤ r ∧ r ≤ 1048577 ∧ Hid (r ≤ 1048576 → l8 ≤ 1048576) ∧ w' = w)
    (k8 : w.cell? ⟨b, o + 8, none⟩ = some (.slice (some ⟨ga, ka, none⟩) l8 c8)) (hL : Lang w ((some ⟨ga, ka, none⟩)) l8 c8) :
    Calls Try.prog 9 #[.pointer (some ⟨b, o, none⟩), .int .i64 kn, .string s] w fun e w' => e = .returned (.bool true) ∧ Below w.heap.size w w' := by
  unfold maxLen at z
  have HS := hid hsp
  have HC := hid hcs
  have HO := hid hone
  have HL := hid hlen
  clear hsp hcs hone hlen
  go_enter Try.func9, Try.ntmps9
  go_wp2_with (first
   | (go_at_call 19; refine HS.out.mono ?_; rintro e w' ⟨r0, rfl, hr0, hr1, hr2, hw⟩; subst w'; clear HS)
   | (go_at_call 22; refine (addLen_w _ _ _ (by omega) (by omega) (by omega) (by omega)).mono ?_; rintro e w' ⟨r, rfl, hr3, hr4, hr5, hw⟩; subst w'))
  · go_ret
    exact ⟨rfl, Below.refl _ _⟩
  · have hs : s.size ≤ 1048576 := by have h5 := hr5.out; omega
    have hl8 : l8 ≤ 1048576 := by have h5 := hr5.out; have h2 := hr2.out; omega
    clear hr0 hr1 hr2 hr3 hr4 hr5
    have hb : b < w.heap.size := World.block_lt_of_cell? _ _ k8
    have HF := hid hfst
    clear hfst
    refine (has_one b o ga ka l8 c8 c w (by omega) k8 HF.out).mono ?_
    rintro e w' ⟨rfl, hw⟩
    subst w'
    go_wp2_with (first
      | (refine wpList_load_mid rfl 59 (.tmp 47) rfl b o rfl cs _ HC.out Try.underlying59 rfl (by rw [HL.out]; exact Try.info59) ?_)
      | (refine wpList_store_whole rfl 59 (.tmp 10) (.tmp 48) rfl w.heap.size cs.toArray _ 59 rfl rfl (by exact heap_new_of rfl _) (by simp only [List.size_toArray, HL.out]; exact Try.info59) (by simp only [List.size_toArray, HL.out]; rfl) (all_oneCell_toArray HO.out) ?_; intro w0 hrow0 hsz0 hg0
         obtain ⟨x0, hx0, hf0⟩ := row8 hrow0 HL.out
         have hz0 : w.heap.size + 1 = w0.heap.size := by rw [hsz0]; simp
         have HB0 := hid (((Below.refl w.heap.size w).alloc (Nat.le_refl _) _).grown hg0 (by simp) (fun k hk => by injection hk with hk; omega))
         have HZ0 := hid hz0
         clear hrow0 hsz0 hg0 hz0))
    have HBt := hid (HB0.out.setCell (p := ⟨w.heap.size, 8, none⟩) (by simp) (.slice (some ⟨ga, ka, none⟩) kn c8))
    have hzt : w.heap.size ≤ (w0.setCell ⟨w.heap.size, 8, none⟩ (.slice (some ⟨ga, ka, none⟩) kn c8)).heap.size := by have := HZ0.out; simp; omega
    have F0 := hid (World.cell?_setCell_same _ _ (.slice (some ⟨ga, ka, none⟩) kn c8) hx0)
    clear HB0 hx0 hf0 HZ0
    generalize w0.setCell ⟨w.heap.size, 8, none⟩ (.slice (some ⟨ga, ka, none⟩) kn c8) = wt at *
    refine (has_one w.heap.size 0 ga ka kn c8 c wt (by omega) F0.out (cell_later HBt.out HF.out)).mono ?_
    rintro e w' ⟨rfl, hw⟩
    subst w'
    clear HF F0
    go_wp2_with (first
      | (refine wpList_load_mid rfl 59 (.tmp 57) rfl b o rfl cs _ (by exact range_below HBt.out HC.out hb) Try.underlying59 rfl (by rw [HL.out]; exact Try.info59) ?_)
      | (refine wpList_store_whole rfl 59 (.tmp 11) (.tmp 58) rfl wt.heap.size cs.toArray _ 59 rfl rfl (by exact heap_new_of rfl _) (by simp only [List.size_toArray, HL.out]; exact Try.info59) (by simp only [List.size_toArray, HL.out]; rfl) (all_oneCell_toArray HO.out) ?_; intro w1 hrow1 hsz1 hg1))
    have hz1 : w1.heap.size = wt.heap.size + 1 := by rw [hsz1]; simp
    have HB1 := hid ((HBt.out.alloc hzt _).grown hg1 (by simp <;> omega) (fun k hk => by injection hk with hk; omega))
    have HR1 := hid hrow1
    clear hrow1 hsz1 hg1
    refine (quote_form s w1 hs).mono ?_
    rintro e w2 ⟨g, n, cap, xs, rfl, hn1, hn2, hgl, hgu, hc34, hown, hhd, hb2⟩
    have HB2 := hid (HB1.out.trans (hb2.mono (by omega)))
    have HR2 := hid (show w2.heap[wt.heap.size]? = some (.cells cs.toArray 59 (0, 0)) from by rw [hb2.block _ (by omega)]; exact HR1.out)
    have hz2 : w1.heap.size ≤ w2.heap.size := hb2.size
    have HLg2 := hid (lang_later hL HB2.out)
    have HOw := hid hown
    have HHd := hid hhd
    clear HR1 HB1 hb2 hc34 hown hhd
    have kc := fun (W : World) (C : Array Value) (i j : Nat) => Lib.run_convert_bytes_const (P := Try.prog) W 23 5 C i j Try.underlying23 Try.underlying5
    go_wp2_with (first
      | (at_builtin; refine wpList_lead rfl (.tmp 60) (.tmp 61) rfl w1.heap.size g n cap xs _ rfl HOw.out hn1 hn2 HHd.out (by omega) (some ⟨ga, ka, none⟩) l8 c8 rfl HLg2.out hl8 ?_; intro G L C w3 hLp hG1 hG2 hGc hgr3
         obtain ⟨x3, hx3, hf3⟩ := row8 (W := w3) (g := wt.heap.size) (by rw [hgr3.block _ (by omega) (fun e => by injection e with e; omega)]; exact HR2.out) HL.out
         have HB3 := hid (HB2.out.grown hgr3 (by omega) (fun k hk => by injection hk with hk; omega))
         have HGc := hid hGc
         have hz3 : w2.heap.size ≤ w3.heap.size := hgr3.size
         clear hGc hgr3 HR2 HOw HHd HLg2 HB2)
      | (refine wpList_load_mid rfl 59 (.tmp 65) rfl b o rfl cs _ (by exact range_below (HB3.out.setCell (by simp <;> omega) _) HC.out hb) Try.underlying59 rfl (by rw [HL.out]; exact Try.info59) ?_)
      | (refine wpList_store_whole rfl 59 (.tmp 12) (.tmp 66) rfl w3.heap.size cs.toArray _ 59 rfl rfl (by exact heap_new_of (by simp) _) (by simp only [List.size_toArray, HL.out]; exact Try.info59) (by simp only [List.size_toArray, HL.out]; rfl) (all_oneCell_toArray HO.out) ?_; intro w4 hrow4 hsz4 hg4
         have hz4 : w4.heap.size = w3.heap.size + 1 := by rw [hsz4]; simp
         have D1 := hid (grown_cell hg4 (cell_old (show (w3.setCell ⟨wt.heap.size, 8, none⟩ _).cell? ⟨wt.heap.size, 8, none⟩ = some _ from World.cell?_setCell_same _ _ _ hx3) _) (by simp <;> omega))
         have D34 := hid (grown_cell hg4 (cell_old (cell_put HGc.out (by simp <;> omega) _) _) (by simp <;> omega))
         have HB4 := hid ((((HB3.out.setCell (p := ⟨wt.heap.size, 8, none⟩) (by simp <;> omega) _).alloc (by simp <;> omega) _).grown hg4 (by simp <;> omega) (fun k hk => by injection hk with hk; omega)))
         have HR4 := hid hrow4
         have hz4' : w3.heap.size < w4.heap.size := by omega
         have HZ4 := hid hz4
         clear hx3 hf3 hsz4 hrow4 hg4 HGc HB3 hz4)
      | (at_builtin; refine wpList_nullLead rfl (.tmp 68) (.tmp 69) rfl w4.heap.size [.int .u8 110, .int .u8 117, .int .u8 108, .int .u8 108] (.int .u8 110) rfl rfl (null_cells w4) rfl (some ⟨ga, ka, none⟩) l8 c8 rfl (lang_later hL (HB4.out.alloc (by omega) _)) hl8 ?_; intro G' L' C' w5 hLp' hG1' hG2' hGc' hgr5
         obtain ⟨x5, hx5, hf5⟩ := row8 (W := w5) (g := w3.heap.size) (by rw [hgr5.block _ (by simp <;> omega) (fun e => by cases e), Below.heap_alloc _ _ _ hz4']; exact HR4.out) HL.out
         have E1 := hid (hgr5.cell (cell_old D1.out _) (fun e => by cases e))
         have E34 := hid (hgr5.cell (cell_old D34.out _) (fun e => by cases e))
         have HB5 := hid ((HB4.out.alloc (by omega) _).grown hgr5 (by simp <;> omega) (fun k hk => by cases hk))
         have HGc := hid hGc'
         have hz5 : w4.heap.size + 1 ≤ w5.heap.size := by have := hgr5.size; simpa using this
         clear hGc' hgr5 HR4 HB4 D1 D34))
    have F1 := hid (cell_put (p := ⟨w3.heap.size, 8, none⟩) E1.out (by simp <;> omega) (.slice (some ⟨G', 0, none⟩) L' C'))
    have F34 := hid (cell_put (p := ⟨w3.heap.size, 8, none⟩) E34.out (by simp <;> omega) (.slice (some ⟨G', 0, none⟩) L' C'))
    have F110 := hid (cell_put (p := ⟨w3.heap.size, 8, none⟩) HGc.out (by simp <;> omega) (.slice (some ⟨G', 0, none⟩) L' C'))
    have F2 := hid (World.cell?_setCell_same _ _ (.slice (some ⟨G', 0, none⟩) L' C') hx5)
    have HB6 := hid (HB5.out.setCell (p := ⟨w3.heap.size, 8, none⟩) (by simp <;> omega) (.slice (some ⟨G', 0, none⟩) L' C'))
    clear hx5 hf5 E1 E34 HGc HB5 kc k8 HC HO HL
    generalize w5.setCell ⟨w3.heap.size, 8, none⟩ (.slice (some ⟨G', 0, none⟩) L' C') = w6 at *
    refine (has_yes _ G 0 L C w6 hLp F1.out F34.out).mono ?_
    rintro e w' ⟨rfl, hw⟩
    subst w'
    go_wp2_with fail
    refine (has_no _ _ 0 L' C' w6 hLp' F2.out F110.out).mono ?_
    rintro e w' ⟨rfl, hw⟩
    subst w'
    go_wp2_with fail
    go_ret
    exact ⟨rfl, HB6.out⟩

end Go.Proofs.Qxb6616259a
