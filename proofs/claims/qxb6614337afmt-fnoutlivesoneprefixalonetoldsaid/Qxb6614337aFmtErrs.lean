import Derived.Test.Qxb6614337aFmtFacts
namespace Go.Proofs.Qxb6614337aFmt
open Go.RowKit Go.Extern.Stop Go.Stop Go.Extern
set_option linter.unusedVariables false

attribute [local go_sem] call20 call23 fguard fmtA fmtAr fmtB fmtBr fmtC fmtCr fmtD fmtDr act5_100 op5_100 str5 act41_113w op41_113w str41 act35_118w notError35 isString35 str35 ptr64 elem64 isError64 ptr62 elem62 isError62

/-- (controlKind).String: some text; nothing that was there turns. -/
def Says (k : Int) (w : World) : Prop := Calls Tryf.prog 22 #[.int .u8 k] w fun e w' => ∃ s : ByteArray, e = .returned (.string s) ∧ Below w.heap.size w w'

set_option maxHeartbeats 400000 in
theorem string_known (k : Int) (w : World) (h : k = 1 ∨ k = 2 ∨ k = 3 ∨ k = 4 ∨ k = 5) : Says k w := by
  unfold Says
  rcases h with rfl | rfl | rfl | rfl | rfl
  all_goals
    go_enter Tryf.func22, Tryf.ntmps22
    go_wp2
    go_ret
    exact ⟨_, rfl, Below.refl _ _⟩

set_option maxHeartbeats 400000 in
theorem string_other (F : Interp) (k : Int) (w : World) (hF : F.answers w.tape) (h0 : 0 ≤ k) (h1 : k ≤ 255) (n1 : (k == 1) = false) (n2 : (k == 2) = false) (n3 : (k == 3) = false) (n4 : (k == 4) = false) (n5 : (k == 5) = false) : Says k w := by
  unfold Says
  have hF' := answers_open hF
  go_enter Tryf.func22, Tryf.ntmps22
  go_wp2
  go_ret
  exact ⟨_, rfl, ((Below.refl _ _).alloc (Nat.le_refl _) _).drew⟩

theorem string_any (F : Interp) (k : Int) (w : World) (hF : F.answers w.tape) (h0 : 0 ≤ k) (h1 : k ≤ 255) : Says k w := by
  by_cases h : k = 1 ∨ k = 2 ∨ k = 3 ∨ k = 4 ∨ k = 5
  · exact string_known k w h
  · exact string_other F k w hF h0 h1 (beq_eq_false_iff_ne.2 (by omega)) (beq_eq_false_iff_ne.2 (by omega)) (beq_eq_false_iff_ne.2 (by omega)) (beq_eq_false_iff_ne.2 (by omega)) (beq_eq_false_iff_ne.2 (by omega))

set_option maxHeartbeats 800000 in
theorem errorf_B (F : Interp) (k : Int) (b : Nat) (w : World) (hF : F.answers w.tape) (h0 : 0 ≤ k) (h1 : k ≤ 255) (hb : b < w.heap.size) (hc : w.cell? ⟨b, 0, none⟩ = some (.iface 35 (.int .u8 k))) :
    Calls Tryf.prog 16 #[.string ⟨#[97, 32, 99, 111, 110, 116, 114, 111, 108, 32, 109, 101, 115, 115, 97, 103, 101, 32, 111, 102, 32, 117, 110, 107, 110, 111, 119, 110, 32, 37, 118]⟩, .slice (some ⟨b, 0, none⟩) 1 1] w fun e w' => (∃ a, e = .returned (.iface 64 (.pointer (some a)))) ∧ Below w.heap.size w w' := by
  have hF' := answers_open hF
  go_enter Tryf.func16, Tryf.ntmps16
  go_wp2
  apply rows_call nextTurns
  case hr =>
    go_simp
    exact ⟨⟨rfl, rfl, rfl⟩, rfl⟩
  case hi => exact invokeString35 _ _
  case hc =>
    refine (string_any F k _ (by exact hF) h0 h1).mono fun e w₃ hx => ?_
    obtain ⟨s, he, hx⟩ := hx
    subst he
    have hF3 : F.answers w₃.tape := by rw [hx.tape]; exact hF
    have hF3' := answers_open hF3
    have hc3 : w₃.cell? ⟨b, 0, none⟩ = some (.iface 35 (.int .u8 k)) := by rw [hx.cell hb]; exact hc
    clear hF' hF3 hc
    apply rows_value nextReturned
    case hr =>
      go_simp
      exact ⟨rfl, rfl⟩
    case h =>
      go_wp2
      go_ret
      exact ⟨⟨_, rfl⟩, ((hx.alloc hx.size _)).drew⟩

set_option maxHeartbeats 800000 in
theorem errorf_C (F : Interp) (k : Int) (b : Nat) (w : World) (hF : F.answers w.tape) (h0 : 0 ≤ k) (h1 : k ≤ 255) (hb : b < w.heap.size) (hc : w.cell? ⟨b, 0, none⟩ = some (.iface 35 (.int .u8 k))) :
    Calls Tryf.prog 16 #[.string ⟨#[97, 32, 37, 118, 32, 99, 111, 110, 116, 114, 111, 108, 32, 109, 101, 115, 115, 97, 103, 101, 32, 111, 102, 32, 116, 104, 101, 32, 119, 114, 111, 110, 103, 32, 108, 101, 110, 103, 116, 104]⟩, .slice (some ⟨b, 0, none⟩) 1 1] w fun e w' => (∃ a, e = .returned (.iface 64 (.pointer (some a)))) ∧ Below w.heap.size w w' := by
  have hF' := answers_open hF
  go_enter Tryf.func16, Tryf.ntmps16
  go_wp2
  apply rows_call nextTurns
  case hr =>
    go_simp
    exact ⟨⟨rfl, rfl, rfl⟩, rfl⟩
  case hi => exact invokeString35 _ _
  case hc =>
    refine (string_any F k _ (by exact hF) h0 h1).mono fun e w₃ hx => ?_
    obtain ⟨s, he, hx⟩ := hx
    subst he
    have hF3 : F.answers w₃.tape := by rw [hx.tape]; exact hF
    have hF3' := answers_open hF3
    have hc3 : w₃.cell? ⟨b, 0, none⟩ = some (.iface 35 (.int .u8 k)) := by rw [hx.cell hb]; exact hc
    clear hF' hF3 hc
    apply rows_value nextReturned
    case hr =>
      go_simp
      exact ⟨rfl, rfl⟩
    case h =>
      go_wp2
      go_ret
      exact ⟨⟨_, rfl⟩, ((hx.alloc hx.size _)).drew⟩

set_option maxHeartbeats 800000 in
theorem errorf_A (F : Interp) (s : ByteArray) (b : Nat) (w : World) (hF : F.answers w.tape) (hc : w.cell? ⟨b, 0, none⟩ = some (.iface 41 (.string s))) :
    Calls Tryf.prog 16 #[.string ⟨#[97, 32, 118, 111, 116, 101, 32, 37, 113]⟩, .slice (some ⟨b, 0, none⟩) 1 1] w fun e w' => (∃ a, e = .returned (.iface 64 (.pointer (some a)))) ∧ Below w.heap.size w w' := by
  have hF' := answers_open hF
  go_enter Tryf.func16, Tryf.ntmps16
  go_wp2
  apply rows_value nextTurns
  case hr =>
    go_simp
    exact ⟨rfl, rfl⟩
  case h =>
    go_wp2
    go_ret
    exact ⟨⟨_, rfl⟩, (((Below.refl _ _).alloc (Nat.le_refl _) _)).drew⟩
end Go.Proofs.Qxb6614337aFmt
