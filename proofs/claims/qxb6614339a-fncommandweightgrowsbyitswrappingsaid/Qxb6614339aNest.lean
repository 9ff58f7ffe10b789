import Derived.Test.Qxb6614339aBuild
namespace Go.Proofs.Qxb6614339a
open Go.RowKit
set_option linter.unusedVariables false

/-- The command at p weighs k in every world that is as w in the blocks from lo to hi. -/
def CmdR (lo hi : Nat) (w : World) (p : Addr) (k : Int) : Prop := ∀ w' : World, (∀ b, lo ≤ b → b < hi → w'.heap[b]? = w.heap[b]?) → Gives 16 (.pointer (some p)) w' k

def fName : ByteArray := ⟨#[102]⟩
def inclName : ByteArray := ⟨#[105, 110, 99, 108, 117, 100, 101]⟩
theorem base_f : baseOf fName = -1 := by decide +kernel
theorem base_incl : baseOf inclName = 0 := by decide +kernel

/-- 'f (c)' weighs 4 more. -/
theorem wrap_arg {lo : Nat} {w0 w1 w2 : World} {p : Addr} {k : Int} (h0 : 0 ≤ k) (hk : k ≤ 800000) (hlo : lo ≤ w0.heap.size) (hc : CmdR lo w0.heap.size w0 p k)
    (hb : Below w0.heap.size w0 w1) (hs : w1.heap.size = w0.heap.size + 3)
    (ha : Added (w0.heap.size + 2) (w0.heap.size + 1) w0.heap.size fName [] (.iface 35 (.pointer (some ⟨w1.heap.size + 1, 0, none⟩))) [w1.heap.size, w1.heap.size + 1] w1 w2)
    (h1 : w2.cell? ⟨w1.heap.size + 1, 6, none⟩ = some (.slice (some ⟨w1.heap.size, 0, none⟩) 1 1)) (h2 : w2.cell? ⟨w1.heap.size, 0, none⟩ = some (.pointer (some p))) (h3 : w1.heap.size + 3 ≤ w2.heap.size) :
    CmdR lo w2.heap.size w2 ⟨w0.heap.size + 2, 0, none⟩ (4 + k) := by
  obtain ⟨g', cap', hcmd, hg'⟩ := ha.cmd
  intro w' hw'
  have lm := lt_of_heap hcmd.node
  have li := lt_of_heap hcmd.id
  have lg : g' < w2.heap.size := by obtain ⟨cur, q, _⟩ := hcmd.row; exact lt_of_heap q
  have lo' : lo ≤ g' := by rcases hg' with e | ⟨e, _⟩ <;> omega
  have hcmd' := hcmd.same (hw' _ (by omega) li) (hw' _ (by omega) lm) (hw' _ lo' lg)
  have cell : ∀ b i, lo ≤ b → b < w2.heap.size → w'.cell? ⟨b, i, none⟩ = w2.cell? ⟨b, i, none⟩ := fun b i x y => World.cell?_of_block (hw' b x y)
  have hin : Gives 16 (.pointer (some p)) w' k := hc w' fun b x y => by
    rw [hw' b x (by omega), ha.two.block b (by omega) (by omega) (by omega)]
    exact hb.block b y
  have hpipe := weight_pipe (w1.heap.size + 1) w1.heap.size p k w' (by omega) ((cell _ 6 (by omega) (by omega)).trans h1) ((cell _ 0 (by omega) (by omega)).trans h2) hin
  have hg := hcmd'.gives (fun _ => k) (by simp) (by
    intro i hi
    obtain rfl : i = 0 := by simpa using hi
    exact hpipe) (fun _ _ => by omega)
  have e : best (baseOf fName) (fun _ => k) (([] : List Value) ++ [Value.iface 35 (.pointer (some ⟨w1.heap.size + 1, 0, none⟩))]).length = 4 + k := by
    show best (baseOf fName) (fun _ => k) (0 + 1) = 4 + k
    rw [base_f, best_yes (by simp [best, wth]; split <;> omega), wth, if_neg (by omega)]
  rw [e] at hg
  exact hg

set_option maxHeartbeats 1000000 in
theorem nested_any (d : Nat) (hd : d ≤ 65536) (w : World) :
    Calls Try.prog 15 #[.int .i64 (d : Int)] w fun e w' => ∃ p, e = .returned (.pointer (some p)) ∧ CmdR w.heap.size w'.heap.size w' p (4 * (d : Int)) ∧ Below w.heap.size w w' := by
  go_enter Try.func15, Try.ntmps15
  go_wp2_with fail
  refine (ident_any _ _).mono ?_
  rintro e w1 ⟨rfl, hc1, hb1, hs1⟩
  have HC : Hid (CmdR w.heap.size w1.heap.size w1 ⟨w.heap.size + 2, 0, none⟩ 0) := hide (by
    intro w' hw'
    have hcmd' := hc1.same (hw' _ (by omega) (by omega)) (hw' _ (by omega) (by omega)) (hw' _ (by omega) (by omega))
    have hg := hcmd'.gives (fun _ => 0) (by simp) (by intro i hi; simp at hi) (fun _ _ => by omega)
    rw [show best (baseOf ⟨#[105, 110, 99, 108, 117, 100, 101]⟩) (fun _ => 0) ([] : List Value).length = 0 from base_incl] at hg
    exact hg)
  clear hc1
  go_wp2_with fail
  go_loopw [3, 4] (fun c i wr => ∃ (k : Nat) (p : Addr), k ≤ d ∧ i = .int .i64 (k : Int) ∧ c = .pointer (some p) ∧ Hid (CmdR w.heap.size wr.heap.size wr p (4 * (k : Int))) ∧ Below w.heap.size w wr) (fun _ i _ => d - (intOf i).toNat)
  case atStart => exact ⟨0, _, Nat.zero_le _, rfl, rfl, HC, hb1⟩
  case round =>
    obtain ⟨k, p, hk, rfl, rfl, HK, hbr⟩ := hrel
    clear HC hb1 hs1
    have hsz := hbr.size
    by_cases hlt : (k : Int) < d
    · go_wp2_with fail
      refine (ident_any _ _).mono ?_
      rintro e w2 ⟨rfl, hc2, hb2, hs2⟩
      have HC2 := hide hc2
      clear hc2
      go_wp2_with fail
      refine (addPipe_any _ _ _ _ p _ _ _ HC2.out (by simp)).mono ?_
      rintro e w3 ⟨rfl, ha3, q1, q2, q3⟩
      have HW := hide (wrap_arg (k := 4 * (k : Int)) (by omega) (by omega) hsz HK.out hb2 hs2 ha3 q1 q2 q3)
      have hb3 : Below w.heap.size w w3 := (hbr.trans (hb2.mono hsz)).trans (ha3.two.below (by omega) (by omega) (by omega))
      clear ha3 q1 q2 q3 HC2 HK hb2
      go_wp2
      go_roundw
      case rel => exact ⟨k + 1, _, by omega, by go_num, rfl, (by rw [show (4 * ((k + 1 : Nat) : Int)) = 4 + 4 * (k : Int) by omega]; exact HW), hb3⟩
      case measure => simp [intOf]; omega
    · obtain rfl : k = d := by omega
      go_wp2
      go_ret
      exact ⟨p, by simp, HK.out, hbr⟩
end Go.Proofs.Qxb6614339a
