import Derived.Test.Qxb6614337aFmtDec
import Derived.BigQuiet
import Derived.Deep.QuietTactic
namespace Go.Proofs.Qxb6614337aFmt
open Go.RowKit
set_option linter.unusedVariables false

set_option maxHeartbeats 1000000 in
theorem u16_of (g off cap : Nat) (x0 x1 : Int) (w : World) (hg : g < w.heap.size) (c0 : w.cell? ⟨g, off, none⟩ = some (.int .u8 x0)) (c1 : w.cell? ⟨g, off + 1, none⟩ = some (.int .u8 x1)) :
    Calls Tryf.prog 18 #[.agg #[], .slice (some ⟨g, off, none⟩) 2 cap] w fun e w' => (∃ x, e = .returned (.int .u16 x)) ∧ Below w.heap.size w w' := by
  have hg1 : g < w.heap.size + 1 := by omega
  go_enter Tryf.func18, Tryf.ntmps18
  go_wp2
  go_quiet (fail)
  go_wp2
  go_ret
  exact ⟨⟨_, rfl⟩, below_drewN ((Below.refl _ _).alloc (Nat.le_refl _) _) _⟩

set_option maxHeartbeats 1000000 in
theorem u32_of (g off cap : Nat) (x0 x1 x2 x3 : Int) (w : World) (hg : g < w.heap.size) (c0 : w.cell? ⟨g, off, none⟩ = some (.int .u8 x0)) (c1 : w.cell? ⟨g, off + 1, none⟩ = some (.int .u8 x1)) (c2 : w.cell? ⟨g, off + 2, none⟩ = some (.int .u8 x2)) (c3 : w.cell? ⟨g, off + 3, none⟩ = some (.int .u8 x3)) :
    Calls Tryf.prog 17 #[.agg #[], .slice (some ⟨g, off, none⟩) 4 cap] w fun e w' => (∃ x, e = .returned (.int .u32 x)) ∧ Below w.heap.size w w' := by
  have hg1 : g < w.heap.size + 1 := by omega
  go_enter Tryf.func17, Tryf.ntmps17
  go_wp2
  go_quiet (fail)
  go_wp2
  go_ret
  exact ⟨⟨_, rfl⟩, below_drewN ((Below.refl _ _).alloc (Nat.le_refl _) _) _⟩

set_option maxHeartbeats 1000000 in
theorem u64_of (g off cap : Nat) (x0 x1 x2 x3 x4 x5 x6 x7 : Int) (w : World) (hg : g < w.heap.size) (c0 : w.cell? ⟨g, off, none⟩ = some (.int .u8 x0)) (c1 : w.cell? ⟨g, off + 1, none⟩ = some (.int .u8 x1)) (c2 : w.cell? ⟨g, off + 2, none⟩ = some (.int .u8 x2)) (c3 : w.cell? ⟨g, off + 3, none⟩ = some (.int .u8 x3)) (c4 : w.cell? ⟨g, off + 4, none⟩ = some (.int .u8 x4)) (c5 : w.cell? ⟨g, off + 5, none⟩ = some (.int .u8 x5)) (c6 : w.cell? ⟨g, off + 6, none⟩ = some (.int .u8 x6)) (c7 : w.cell? ⟨g, off + 7, none⟩ = some (.int .u8 x7)) :
    Calls Tryf.prog 19 #[.agg #[], .slice (some ⟨g, off, none⟩) 8 cap] w fun e w' => (∃ x, e = .returned (.int .u64 x)) ∧ Below w.heap.size w w' := by
  have hg1 : g < w.heap.size + 1 := by omega
  go_enter Tryf.func19, Tryf.ntmps19
  go_wp2
  go_quiet (fail)
  go_wp2
  go_ret
  exact ⟨⟨_, rfl⟩, below_drewN ((Below.refl _ _).alloc (Nat.le_refl _) _) _⟩

end Go.Proofs.Qxb6614337aFmt
