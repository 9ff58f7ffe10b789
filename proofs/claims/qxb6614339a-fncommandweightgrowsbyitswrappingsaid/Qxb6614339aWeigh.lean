import Derived.Test.Qxb6614339aAsserts
import Derived.WalkKit
import Derived.WalkSpells
import Derived.WalkLawsBesides
namespace Go.Proofs.Qxb6614339a
open Go.RowKit
set_option linter.unusedVariables false

attribute [local go_sem] ta54_59 ta54_63 ta54_66 ta54_73 ta54_75 ta54_77 ta54_35 ta54_24 ta54_45 ta54_51 ta35_59 ta35_63 ta35_66 ta35_73 ta35_75 ta35_77 ta35_35 ta35_24 ta35_45 ta35_51 ta45_59 ta45_63 ta45_66 ta45_73 ta45_75 ta45_77 ta45_35 ta45_24 ta45_45 ta45_51 ta24_59 ta24_63 ta24_66 ta24_73 ta24_75 ta24_77 ta24_35 ta24_24 ta24_45 ta24_51 ta51_51

theorem hide {p : Prop} (h : p) : Hid p := h
theorem unhide {p : Prop} (h : Hid p) : p := h

/-- A call at the weight inner within a node of the weight outer; -1: no call. -/
def wth (outer inner : Int) : Int := if inner = -1 then -1 else outer + inner

/-- What a call of function f on one value answers, in a world that stays. -/
def Gives (f : Nat) (v : Value) (w : World) (k : Int) : Prop := Calls Try.prog f #[v] w fun e w' => e = .returned (.int .i64 k) ∧ w = w'

set_option maxHeartbeats 400000 in
theorem within_any (o i : Int) (w : World) (h0 : 0 ≤ o) (h1 : o ≤ 10) (h2 : -1 ≤ i) (h3 : i ≤ 1000000) :
    Calls Try.prog 17 #[.int .i64 o, .int .i64 i] w fun e w' => e = .returned (.int .i64 (wth o i)) ∧ w = w' := by
  by_cases h : i = -1
  · subst h
    go_enter Try.func17, Try.ntmps17
    go_wp2
    go_ret
    exact ⟨by simp [wth], rfl⟩
  · have hb : (i == -1) = false := beq_eq_false_iff_ne.2 h
    have HW : Hid (wth o i = o + i) := hide (by simp [wth, h])
    clear h
    go_enter Try.func17, Try.ntmps17
    go_wp2
    go_ret
    exact ⟨by rw [unhide HW]; simp, rfl⟩

set_option maxHeartbeats 400000 in
theorem weight_field (v : Value) (w : World) : Gives 18 (.iface 54 v) w (-1) := by
  unfold Gives
  go_enter Try.func18, Try.ntmps18
  go_wp2
  go_ret
  exact ⟨by simp, rfl⟩

set_option maxHeartbeats 400000 in
/-- 'weight' of a command: what 'commandWeight' answers. -/
theorem weight_cmd (p : Addr) (k : Int) (w : World) (h : Gives 16 (.pointer (some p)) w k) : Gives 18 (.iface 24 (.pointer (some p))) w k := by
  have H := hide h
  clear h
  unfold Gives
  go_enter Try.func18, Try.ntmps18
  go_wp2_with (go_at_call 16; refine (unhide H).mono ?_; rintro e w' ⟨rfl, rfl⟩)
  go_ret
  exact ⟨by simp, rfl⟩

set_option maxHeartbeats 400000 in
/-- 'deepest' of one command. -/
theorem deepest_one (cb : Nat) (p : Addr) (k : Int) (w : World) (hk : -1 ≤ k) (hc : w.cell? ⟨cb, 0, none⟩ = some (.pointer (some p))) (h : Gives 16 (.pointer (some p)) w k) :
    Gives 21 (.slice (some ⟨cb, 0, none⟩) 1 1) w k := by
  have H := hide (weight_cmd p k w h)
  clear h
  unfold Gives
  go_enter Try.func21, Try.ntmps21
  go_wp2_with fail
  refine wp_loop_rounds 2 ?_
  rw [rounds_succ]
  by_cases h1 : k = -1
  · subst h1
    go_wp2_with (go_at_call 18; refine (unhide H).mono ?_; rintro e w' ⟨rfl, rfl⟩)
    rw [rounds_succ]
    go_wp2
    go_ret
    exact ⟨by simp, rfl⟩
  · have h2 : -1 < k := by omega
    clear h1
    go_wp2_with (go_at_call 18; refine (unhide H).mono ?_; rintro e w' ⟨rfl, rfl⟩)
    rw [rounds_succ]
    go_wp2
    go_ret
    exact ⟨by simp, rfl⟩

set_option maxHeartbeats 400000 in
/-- 'weight' of a pipeline of one command. -/
theorem weight_pipe (pb cb : Nat) (p : Addr) (k : Int) (w : World) (hk : -1 ≤ k) (hp : w.cell? ⟨pb, 6, none⟩ = some (.slice (some ⟨cb, 0, none⟩) 1 1)) (hc : w.cell? ⟨cb, 0, none⟩ = some (.pointer (some p))) (h : Gives 16 (.pointer (some p)) w k) :
    Gives 18 (.iface 35 (.pointer (some ⟨pb, 0, none⟩))) w k := by
  have H := hide (deepest_one cb p k w hk hc h)
  clear h hc
  unfold Gives
  go_enter Try.func18, Try.ntmps18
  go_wp2_with (go_at_call 21; refine (unhide H).mono ?_; rintro e w' ⟨rfl, rfl⟩)
  go_ret
  exact ⟨by simp, rfl⟩

set_option maxHeartbeats 400000 in
/-- 'weight' of a chain. -/
theorem weight_chain (hb : Nat) (v : Value) (k : Int) (w : World) (hk : -1 ≤ k) (hk2 : k ≤ 1000000) (hp : w.cell? ⟨hb, 3, none⟩ = some v) (h : Gives 18 v w k) :
    Gives 18 (.iface 45 (.pointer (some ⟨hb, 0, none⟩))) w (wth 2 k) := by
  have H := hide h
  clear h
  unfold Gives
  go_enter Try.func18, Try.ntmps18
  go_wp2_with (first | (go_at_call 18; refine (unhide H).mono ?_; rintro e w' ⟨rfl, rfl⟩) | (go_at_call 17; refine (within_any _ _ _ (by omega) (by omega) hk hk2).mono ?_; rintro e w' ⟨rfl, rfl⟩))
  go_ret
  exact ⟨by simp, rfl⟩
end Go.Proofs.Qxb6614339a
