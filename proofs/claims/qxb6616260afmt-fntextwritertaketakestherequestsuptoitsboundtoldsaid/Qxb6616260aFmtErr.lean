/-
  fmt.Errorf and tooLong by contracts: whatever text fmt gives, an error that is not nil comes back.
-/
import Derived.Test.Qxb6616260aFmtFacts
import Derived.WalkKit
import Derived.WalkSpells
import Derived.WalkLawsBesides
import Derived.BigCall
import Derived.Deep.RegionWith
import Derived.Deep.QuietTactic
import Derived.BigQuiet
namespace Go.Proofs.Qxb6616260aFmt
open Go.RowKit Go.Extern.Stop Go.Stop Go.Extern

attribute [local go_sem] call13 guardOk fmt0 fmt0r op3_100w ptr48 elem48 isError48 ptr47 elem47 isError47

theorem hid {p : Prop} (h : p) : Hid p := h

/-- The sentinel, in memory. -/
def Sent (w : World) (a : Addr) (s : ByteArray) : Prop := w.cell? ⟨0, 0, none⟩ = some (.iface 48 (.pointer (some a))) ∧ w.cell? a = some (.string s)

set_option maxHeartbeats 1000000 in
theorem errf_any (F : Interp) (g : Nat) (n : Int) (a : Addr) (s : ByteArray) (w : World) (hF : F.answers w.tape)
    (h0 : w.cell? ⟨g, 0, none⟩ = some (.iface 48 (.pointer (some a)))) (h1 : w.cell? ⟨g, 1, none⟩ = some (.iface 3 (.int .i64 n))) (hs : w.cell? a = some (.string s)) :
    Calls Tryf.prog 12 #[.string ⟨#[37, 119, 58, 32, 109, 111, 114, 101, 32, 116, 104, 97, 110, 32, 37, 100, 32, 98, 121, 116, 101, 115]⟩, .slice (some ⟨g, 0, none⟩) 2 2] w fun e w' => ∃ N, e = .returned (.iface 47 (.pointer (some ⟨N, 0, none⟩))) ∧ Below w.heap.size w w' := by
  have hF' := answers_open hF
  have hop := opPlain48_119w "fmt.errorf" a s w hs
  go_enter Tryf.func12, Tryf.ntmps12
  go_wp2
  go_ret
  exact ⟨_, rfl, ((Below.refl _ _).alloc (Nat.le_refl _) _).drew⟩

set_option maxHeartbeats 1000000 in
theorem tooLong_any (F : Interp) (b : Nat) (lim : Int) (a : Addr) (s : ByteArray) (w : World) (hF : F.answers w.tape) (hS : Sent w a s) (hl : w.cell? ⟨b, 2, none⟩ = some (.int .i64 lim)) :
    Calls Tryf.prog 11 #[.pointer (some ⟨b, 0, none⟩)] w fun e w' => ∃ N, e = .returned (.iface 47 (.pointer (some ⟨N, 0, none⟩))) ∧ Below w.heap.size w w' := by
  obtain ⟨hg, hs⟩ := hS
  have ha : a.block < w.heap.size := World.block_lt_of_cell? _ _ hs
  have HS := hid (fun o1 => ((World.cell?_alloc_lt w o1 a ha).trans hs))
  have HF := hid hF
  clear hs hF
  go_enter Tryf.func11, Tryf.ntmps11
  go_wp2
  go_region_with ((go_at_call 12; refine (errf_any F _ lim a s _ (by exact HF.out) (by go_simp) (by go_simp) (by exact HS.out _)).mono ?_; rintro e w' ⟨N, rfl, hb⟩))
  all_goals
    go_wp2
    go_ret
    exact ⟨_, rfl, (((Below.refl w.heap.size w).alloc (Nat.le_refl _) _).drew).trans (hb.mono (by simp))⟩

end Go.Proofs.Qxb6616260aFmt
