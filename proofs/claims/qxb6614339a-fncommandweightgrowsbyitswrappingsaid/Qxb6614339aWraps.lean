import Derived.Test.Qxb6614339aLaws
namespace Go.Proofs.Qxb6614339a
open Go.RowKit
set_option linter.unusedVariables false
attribute [local go_sem] ta35_51 ta35_35 ta45_51 ta45_35 ta45_45

set_option maxHeartbeats 400000 in
theorem cmd_paren (m g : Nat) (v : Value) (k : Int) (w : World) (hk : -1 ≤ k) (hk2 : k ≤ 1000000) (a : Addr) (hv : v = .iface 35 (.pointer (some a)))
    (hm : w.cell? ⟨m, 3, none⟩ = some (.slice (some ⟨g, 0, none⟩) 1 1)) (h0 : w.cell? ⟨g, 0, none⟩ = some (.iface 35 (.pointer (some a)))) (h : Gives 18 v w k) :
    Gives 16 (.pointer (some ⟨m, 0, none⟩)) w (wth 1 k) := by
  subst hv
  have H := hide h
  clear h
  unfold Gives
  go_enter Try.func16, Try.ntmps16
  go_wp2_with (first | (go_at_call 18; refine (unhide H).mono ?_; rintro e w' ⟨rfl, rfl⟩) | (go_at_call 17; refine (within_any _ _ _ (by omega) (by omega) hk hk2).mono ?_; rintro e w' ⟨rfl, rfl⟩))
  refine wp_loop_rounds 1 ?_
  rw [rounds_succ]
  go_wp2
  go_ret
  exact ⟨by simp, rfl⟩

set_option maxHeartbeats 400000 in
theorem cmd_chain (m g : Nat) (v : Value) (k : Int) (w : World) (a : Addr) (hv : v = .iface 45 (.pointer (some a)))
    (hm : w.cell? ⟨m, 3, none⟩ = some (.slice (some ⟨g, 0, none⟩) 1 1)) (h0 : w.cell? ⟨g, 0, none⟩ = some (.iface 45 (.pointer (some a)))) (h : Gives 18 v w k) :
    Gives 16 (.pointer (some ⟨m, 0, none⟩)) w k := by
  subst hv
  have H := hide h
  clear h
  unfold Gives
  go_enter Try.func16, Try.ntmps16
  go_wp2_with (go_at_call 18; refine (unhide H).mono ?_; rintro e w' ⟨rfl, rfl⟩)
  refine wp_loop_rounds 1 ?_
  rw [rounds_succ]
  go_wp2
  go_ret
  exact ⟨by simp, rfl⟩

theorem heap_old (w : World) (o : Obj) {k : Nat} (h : k < w.heap.size) : (w.alloc o).heap[k]? = w.heap[k]? := Below.heap_alloc w o k h
theorem heap_new (w : World) (o : Obj) {k : Nat} (h : k = w.heap.size) : (w.alloc o).heap[k]? = some o := by subst h; exact heap_alloc_new w o

set_option maxHeartbeats 400000 in
theorem paren_any (p : Addr) (w : World) :
    Calls Try.prog 10 #[.pointer (some p)] w fun e w' => e = .returned (.pointer (some ⟨w.heap.size + 3, 0, none⟩)) ∧ Below w.heap.size w w' ∧
      w'.cell? ⟨w.heap.size + 3, 3, none⟩ = some (.slice (some ⟨w.heap.size + 2, 0, none⟩) 1 1) ∧ w'.cell? ⟨w.heap.size + 2, 0, none⟩ = some (.iface 35 (.pointer (some ⟨w.heap.size + 1, 0, none⟩))) ∧
      w'.cell? ⟨w.heap.size + 1, 6, none⟩ = some (.slice (some ⟨w.heap.size, 0, none⟩) 1 1) ∧ w'.cell? ⟨w.heap.size, 0, none⟩ = some (.pointer (some p)) := by
  go_enter Try.func10, Try.ntmps10
  go_wp2
  go_ret
  refine ⟨by simp, ((below3 w _ _ _).alloc (by simp; omega) _), ?_, ?_, ?_, ?_⟩
  · rw [cell_of_heap (heap_new _ _ (by simp))]; rfl
  · rw [cell_of_heap ((heap_old _ _ (by simp)).trans (heap_new _ _ (by simp)))]; rfl
  · rw [cell_of_heap ((heap_old _ _ (by simp <;> omega)).trans ((heap_old _ _ (by simp)).trans (heap_new _ _ (by simp))))]; rfl
  · rw [cell_of_heap ((heap_old _ _ (by simp <;> omega)).trans ((heap_old _ _ (by simp <;> omega)).trans ((heap_old _ _ (by simp)).trans (heap_new _ _ (by simp)))))]; rfl

set_option maxHeartbeats 400000 in
theorem chain_any (p : Addr) (w : World) :
    Calls Try.prog 11 #[.pointer (some p)] w fun e w' => e = .returned (.pointer (some ⟨w.heap.size + 5, 0, none⟩)) ∧ Below w.heap.size w w' ∧
      w'.cell? ⟨w.heap.size + 5, 3, none⟩ = some (.slice (some ⟨w.heap.size + 4, 0, none⟩) 1 1) ∧ w'.cell? ⟨w.heap.size + 4, 0, none⟩ = some (.iface 45 (.pointer (some ⟨w.heap.size + 3, 0, none⟩))) ∧
      w'.cell? ⟨w.heap.size + 3, 3, none⟩ = some (.iface 35 (.pointer (some ⟨w.heap.size + 1, 0, none⟩))) ∧
      w'.cell? ⟨w.heap.size + 1, 6, none⟩ = some (.slice (some ⟨w.heap.size, 0, none⟩) 1 1) ∧ w'.cell? ⟨w.heap.size, 0, none⟩ = some (.pointer (some p)) := by
  go_enter Try.func11, Try.ntmps11
  go_wp2
  go_ret
  refine ⟨by simp, (((below3 w _ _ _).alloc (by simp; omega) _).alloc (by simp; omega) _).alloc (by simp; omega) _, ?_, ?_, ?_, ?_, ?_⟩
  · rw [cell_of_heap (heap_new _ _ (by simp))]; rfl
  · rw [cell_of_heap ((heap_old _ _ (by simp)).trans (heap_new _ _ (by simp)))]; rfl
  · rw [cell_of_heap ((heap_old _ _ (by simp <;> omega)).trans ((heap_old _ _ (by simp)).trans (heap_new _ _ (by simp))))]; rfl
  · rw [cell_of_heap ((heap_old _ _ (by simp <;> omega)).trans ((heap_old _ _ (by simp <;> omega)).trans ((heap_old _ _ (by simp <;> omega)).trans ((heap_old _ _ (by simp)).trans (heap_new _ _ (by simp))))))]; rfl
  · rw [cell_of_heap ((heap_old _ _ (by simp <;> omega)).trans ((heap_old _ _ (by simp <;> omega)).trans ((heap_old _ _ (by simp <;> omega)).trans ((heap_old _ _ (by simp <;> omega)).trans ((heap_old _ _ (by simp)).trans (heap_new _ _ (by simp)))))))]; rfl

/-- 'f (c)' weighs c's weight within an argument. -/
theorem wrap_gives {lo : Nat} {w0 w1 w2 : World} {p : Addr} {k : Int} (h0 : -1 ≤ k) (hk : k ≤ 800000) (hlo : lo ≤ w0.heap.size) (hc : CmdR lo w0.heap.size w0 p k)
    (hb : Below w0.heap.size w0 w1) (hs : w1.heap.size = w0.heap.size + 3)
    (ha : Added (w0.heap.size + 2) (w0.heap.size + 1) w0.heap.size fName [] (.iface 35 (.pointer (some ⟨w1.heap.size + 1, 0, none⟩))) [w1.heap.size, w1.heap.size + 1] w1 w2)
    (h1 : w2.cell? ⟨w1.heap.size + 1, 6, none⟩ = some (.slice (some ⟨w1.heap.size, 0, none⟩) 1 1)) (h2 : w2.cell? ⟨w1.heap.size, 0, none⟩ = some (.pointer (some p))) :
    Gives 16 (.pointer (some ⟨w0.heap.size + 2, 0, none⟩)) w2 (wth 4 k) := by
  obtain ⟨g', cap', hcmd, hg'⟩ := ha.cmd
  have hin : Gives 16 (.pointer (some p)) w2 k := hc w2 fun b x y => by
    rw [ha.two.block b (by omega) (by omega) (by omega)]
    exact hb.block b y
  have hpipe := weight_pipe (w1.heap.size + 1) w1.heap.size p k w2 (by omega) h1 h2 hin
  have hg := hcmd.gives (fun _ => k) (by simp) (by
    intro i hi
    obtain rfl : i = 0 := by simpa using hi
    exact hpipe) (fun _ _ => by omega)
  have e : best (baseOf fName) (fun _ => k) (([] : List Value) ++ [Value.iface 35 (.pointer (some ⟨w1.heap.size + 1, 0, none⟩))]).length = wth 4 k := by
    show best (baseOf fName) (fun _ => k) (0 + 1) = wth 4 k
    rw [base_f]
    by_cases hk1 : k = -1
    · subst hk1; rfl
    · rw [best_yes (by simp [best, wth]; split <;> omega)]
  rw [e] at hg
  exact hg

theorem want_bd (s : ByteArray) (ds : Nat → Int) (len : Nat) (hd : ∀ i, i < len → ds i ≤ 65536) : -1 ≤ best (baseOf s) (fun i => kOf (ds i)) len ∧ best (baseOf s) (fun i => kOf (ds i)) len ≤ 300000 := by
  have h := best_bd (M := 262144) (ks := fun i => kOf (ds i)) (by omega) (baseOf_bd s) len (fun i hi => by
    have := hd i hi
    show -1 ≤ kOf (ds i) ∧ kOf (ds i) ≤ 262144
    unfold kOf; split <;> omega)
  omega

set_option maxHeartbeats 2000000 in
theorem law_wraps (s : ByteArray) (a : Option Addr) (len cap : Nat) (ds : Nat → Int) (k : Int) (w : World) (hs : s.size ≤ maxLen) (hl : len ≤ maxLen) (hD : Depths w a len ds) :
    Calls Try.prog 4 #[.string s, .slice a len cap, .int .i64 k] w fun e w' => e = .returned (.bool true) ∧ Below w.heap.size w w' := by
  have HD := hide hD
  clear hD
  go_enter Try.func4, Try.ntmps4
  go_wp2_with fail
  refine (fits9 _ _ _ _ _ _ hs hl).mono ?_
  rintro e w1 ⟨b, rfl, rfl, hb⟩
  cases b
  · clear hb
    go_wp2
    go_ret
    exact ⟨by simp, Below.refl _ _⟩
  · obtain ⟨hb1, hb2⟩ := hb rfl
    clear hb
    go_wp2_with fail
    refine (tooBig_any _ _ _ _ ds _ hb1 hb2 HD.out).mono ?_
    rintro e w1 ⟨b, rfl, rfl, hb⟩
    cases b
    · obtain ⟨hc1, hc2⟩ := hb rfl
      have HC2 := hide hc2
      clear hb hc2
      go_wp2_with fail
      refine (commandOf_any _ _ _ _ ds _ hc1 HD.out HC2.out).mono ?_
      rintro e w2 ⟨rfl, hM⟩
      have HB2 := hide hM.bel
      have HS2 := hide hM.bel.size
      have HR := hide (hM.cmdR hc1 HC2.out)
      have hwb := want_bd s ds len HC2.out
      clear hM HD HC2
      generalize best (baseOf s) (fun i => kOf (ds i)) len = want at *
      have HG := hide (weight8 _ _ _ (HR.out w2 (fun _ _ _ => rfl)))
      by_cases k0 : k = 0
      · subst k0
        go_wp2_with (go_at_call 8; refine (unhide HG).mono ?_; rintro e w' ⟨rfl, rfl⟩)
        · refine (paren_any _ _).mono ?_
          rintro e w3 ⟨rfl, hb3, q1, q2, q3, q4⟩
          have hin := HR.out w3 (fun b _ y => hb3.block b y)
          have HO := hide (weight8 _ _ _ (cmd_paren _ _ _ want w3 hwb.1 (by omega) _ rfl q1 q2 (weight_pipe _ _ _ want w3 hwb.1 q3 q4 hin)))
          have hB3 : Hid (Below w.heap.size w w3) := hide (HB2.out.trans (hb3.mono HS2.out))
          clear hb3 q1 q2 q3 q4 hin HG HR HB2
          by_cases hw1 : want = -1
          · subst hw1
            have HO2 := hide (show Gives 8 _ w3 (-1) from unhide HO)
            clear HO
            go_wp2_with (go_at_call 8; refine (unhide HO2).mono ?_; rintro e w' ⟨rfl, rfl⟩)
            go_ret
            exact ⟨by simp, hB3.out⟩
          · have hw2 : (want == -1) = false := beq_eq_false_iff_ne.2 hw1
            have hw3 : (want != -1) = true := bne_iff_ne.2 hw1
            have HO2 : Hid (Gives 8 _ w3 (want + 1)) := hide (by rw [show want + 1 = wth 1 want by rw [wth, if_neg hw1]; omega]; exact unhide HO)
            clear HO hw1
            go_wp2_with (go_at_call 8; refine (unhide HO2).mono ?_; rintro e w' ⟨rfl, rfl⟩)
            go_ret
            exact ⟨by simp, hB3.out⟩
      by_cases k1 : k = 1
      · subst k1
        go_wp2_with (go_at_call 8; refine (unhide HG).mono ?_; rintro e w' ⟨rfl, rfl⟩)
        · refine (chain_any _ _).mono ?_
          rintro e w3 ⟨rfl, hb3, q1, q2, q5, q3, q4⟩
          have hin := HR.out w3 (fun b _ y => hb3.block b y)
          have HO := hide (weight8 _ _ _ (cmd_chain _ _ _ (wth 2 want) w3 _ rfl q1 q2 (weight_chain _ _ want w3 hwb.1 (by omega) q5 (weight_pipe _ _ _ want w3 hwb.1 q3 q4 hin))))
          have hB3 : Hid (Below w.heap.size w w3) := hide (HB2.out.trans (hb3.mono HS2.out))
          clear hb3 q1 q2 q3 q4 q5 hin HG HR HB2
          by_cases hw1 : want = -1
          · subst hw1
            have HO2 := hide (show Gives 8 _ w3 (-1) from unhide HO)
            clear HO
            go_wp2_with (go_at_call 8; refine (unhide HO2).mono ?_; rintro e w' ⟨rfl, rfl⟩)
            go_ret
            exact ⟨by simp, hB3.out⟩
          · have hw2 : (want == -1) = false := beq_eq_false_iff_ne.2 hw1
            have hw3 : (want != -1) = true := bne_iff_ne.2 hw1
            have HO2 : Hid (Gives 8 _ w3 (want + 2)) := hide (by rw [show want + 2 = wth 2 want by rw [wth, if_neg hw1]; omega]; exact unhide HO)
            clear HO hw1
            go_wp2_with (go_at_call 8; refine (unhide HO2).mono ?_; rintro e w' ⟨rfl, rfl⟩)
            go_ret
            exact ⟨by simp, hB3.out⟩
      have e0 : (k == 0) = false := beq_eq_false_iff_ne.2 k0
      have e1 : (k == 1) = false := beq_eq_false_iff_ne.2 k1
      clear k0 k1
      go_wp2_with (go_at_call 8; refine (unhide HG).mono ?_; rintro e w' ⟨rfl, rfl⟩)
      · refine (ident_any _ _).mono ?_
        rintro e w4 ⟨rfl, hc4, hb4, hs4⟩
        have HC4 := hide hc4
        clear hc4
        go_wp2_with fail
        · refine (addPipe_any _ _ _ _ _ _ _ _ HC4.out (by simp)).mono ?_
          rintro e w3 ⟨rfl, ha3, q1, q2, q3⟩
          have HO := hide (weight8 _ _ _ (wrap_gives hwb.1 (by omega) HS2.out HR.out hb4 hs4 ha3 q1 q2))
          have hB3 : Hid (Below w.heap.size w w3) := hide ((HB2.out.trans (hb4.mono HS2.out)).trans (ha3.two.below (by have := HS2.out; omega) (by have := HS2.out; omega) (by have := HS2.out; omega)))
          clear ha3 q1 q2 q3 HC4 hb4 hs4 HG HR HB2
          by_cases hw1 : want = -1
          · subst hw1
            have HO2 := hide (show Gives 8 _ w3 (-1) from unhide HO)
            clear HO
            go_wp2_with (go_at_call 8; refine (unhide HO2).mono ?_; rintro e w' ⟨rfl, rfl⟩)
            go_ret
            exact ⟨by simp, hB3.out⟩
          · have hw2 : (want == -1) = false := beq_eq_false_iff_ne.2 hw1
            have hw3 : (want != -1) = true := bne_iff_ne.2 hw1
            have HO2 : Hid (Gives 8 _ w3 (want + 4)) := hide (by rw [show want + 4 = wth 4 want by rw [wth, if_neg hw1]; omega]; exact unhide HO)
            clear HO hw1
            go_wp2_with (go_at_call 8; refine (unhide HO2).mono ?_; rintro e w' ⟨rfl, rfl⟩)
            go_ret
            exact ⟨by simp, hB3.out⟩
    · clear hb
      go_wp2
      go_ret
      exact ⟨by simp, Below.refl _ _⟩
end Go.Proofs.Qxb6614339a
