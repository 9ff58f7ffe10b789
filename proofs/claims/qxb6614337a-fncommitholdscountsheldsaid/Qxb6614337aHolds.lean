import Derived.Test.Qxb6614337aRows
import Derived.WalkKit
import Derived.WalkSpells
import Derived.WalkLawsBesides
import Derived.BigQuiet
import Derived.Deep.QuietTactic
namespace Go.Proofs.Qxb6614337a
open Go.RowKit

theorem wrap_u64_id {x : Int} (h0 : 0 ≤ x) (h1 : x ≤ 18446744073709551615) : IntKind.u64.wrap x = x := by
  simp [IntKind.wrap, IntKind.signed, IntKind.bits]; omega

set_option maxHeartbeats 400000 in
theorem holds_le (b : Nat) (aru seq : Int) (w : World) (_h0 : 0 ≤ seq) (h1 : seq ≤ aru) (_h2 : aru ≤ 18446744073709551615)
    (_hc : w.cell? ⟨b, 55, none⟩ = some (.int .u64 aru)) :
    Calls Try.prog 7 #[.pointer (some ⟨b, 0, none⟩), .int .u64 seq] w fun e w' => e = .returned (.bool true) ∧ ∃ n, w' = w.drewN n := by
  have hd : decide (seq ≤ aru) = true := by simpa using h1
  go_enter Try.func7, Try.ntmps7
  go_wp2
  go_quiet (fail)
  go_wp2
  go_ret
  exact ⟨rfl, _, rfl⟩

set_option maxHeartbeats 400000 in
theorem holds_out (b : Nat) (ad : Option Addr) (len : Nat) (aru seq : Int) (w : World) (h0 : 0 ≤ aru) (h1 : aru < seq) (h2 : seq ≤ 18446744073709551615) (h3 : (len : Int) ≤ seq - aru - 1) (h4 : len ≤ 1048576)
    (_hc : w.cell? ⟨b, 55, none⟩ = some (.int .u64 aru)) (_hs : w.cell? ⟨b, 56, none⟩ = some (.slice ad len len)) :
    Calls Try.prog 7 #[.pointer (some ⟨b, 0, none⟩), .int .u64 seq] w fun e w' => e = .returned (.bool false) ∧ ∃ n, w' = w.drewN n := by
  have hd : decide (seq ≤ aru) = false := by simp; omega
  have hd2 : decide (seq - aru - 1 < (len : Int)) = false := by simp; omega
  go_enter Try.func7, Try.ntmps7
  go_wp2
  go_quiet (fail)
  go_wp2
  go_ret
  exact ⟨rfl, _, rfl⟩

set_option maxHeartbeats 400000 in
theorem holds_in (b g k len : Nat) (bv : Bool) (aru seq : Int) (w : World) (_h0 : 0 ≤ aru) (_h2 : seq ≤ 18446744073709551615) (h1 : seq = aru + k + 1) (h3 : k < len) (_h4 : len ≤ 1048576)
    (_hc : w.cell? ⟨b, 55, none⟩ = some (.int .u64 aru)) (_hs : w.cell? ⟨b, 56, none⟩ = some (.slice (some ⟨g, 0, none⟩) len len))
    (_hk : w.cell? ⟨g, k, none⟩ = some (.bool bv)) :
    Calls Try.prog 7 #[.pointer (some ⟨b, 0, none⟩), .int .u64 seq] w fun e w' => e = .returned (.bool bv) ∧ ∃ n, w' = w.drewN n := by
  have hd : decide (seq ≤ aru) = false := by simp; omega
  have hd2 : decide (k < len) = true := by simpa using h3
  have h3' : (k : Int) < (len : Int) := by omega
  have e1 : IntKind.u64.wrap (seq - aru) = seq - aru := wrap_u64_id (by omega) (by omega)
  have e2 : IntKind.u64.wrap (seq - aru - 1) = (k : Int) := (wrap_u64_id (by omega) (by omega)).trans (by omega)
  have e3 : IntKind.u64.wrap (len : Int) = (len : Int) := wrap_u64_id (by omega) (by omega)
  clear h1
  go_enter Try.func7, Try.ntmps7
  go_wp2
  go_quiet (fail)
  go_wp2
  go_ret
  exact ⟨rfl, _, rfl⟩
end Go.Proofs.Qxb6614337a
