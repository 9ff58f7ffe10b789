import Derived.Test.Qxb6614337aFmtWire
namespace Go.Proofs.Qxb6614337aFmt
open Go.RowKit Go.Extern.Stop Go.Stop Go.Extern
set_option linter.unusedVariables false

/-- Of the cuts at 0 .. i-1: how many outlive, and the last that does (-1: none). -/
def cntTo (x : Int) (i : Nat) : Int := if (5 < i ∧ x = 1) ∨ (3 < i ∧ x = 5) then 1 else 0
def atTo (x : Int) (i : Nat) : Int := if 5 < i ∧ x = 1 then 5 else if 3 < i ∧ x = 5 then 3 else -1

theorem good_take (xs : List Int) (i : Nat) (hi : i ≤ xs.length) : Good (xs.take i) = decide ((i = 5 ∧ xs.getD 0 0 = 1) ∨ (i = 3 ∧ xs.getD 0 0 = 5)) := by
  have hl : (xs.take i).length = i := by simp; omega
  by_cases h0 : i = 0
  · subst h0
    simp [Good]
  · have e : (xs.take i).getD 0 0 = xs.getD 0 0 := by
      have : 0 < i := by omega
      simp [List.getD, this]
    unfold Good
    rw [hl, e, Bool.eq_iff_iff]
    simp

theorem step_yes (x : Int) (i : Nat) (h : (i = 5 ∧ x = 1) ∨ (i = 3 ∧ x = 5)) : cntTo x (i + 1) = cntTo x i + 1 ∧ atTo x (i + 1) = i ∧ cntTo x i = 0 := by
  unfold cntTo atTo
  rcases h with ⟨rfl, rfl⟩ | ⟨rfl, rfl⟩ <;> simp
theorem step_no (x : Int) (i : Nat) (h : ¬ ((i = 5 ∧ x = 1) ∨ (i = 3 ∧ x = 5))) : cntTo x (i + 1) = cntTo x i ∧ atTo x (i + 1) = atTo x i := by
  have e1 : (5 < i + 1 ∧ x = 1) ↔ (5 < i ∧ x = 1) := by omega
  have e2 : (3 < i + 1 ∧ x = 5) ↔ (3 < i ∧ x = 5) := by omega
  unfold cntTo atTo
  simp only [e1, e2, and_self]
theorem cnt_bd (x : Int) (i : Nat) : 0 ≤ cntTo x i ∧ cntTo x i ≤ 1 := by
  unfold cntTo; split <;> omega

set_option maxHeartbeats 400000 in
theorem size_ok (n : Int) (ad : Option Addr) (len cap : Nat) (w : World) (h : len ≤ 1048576) :
    Calls Tryf.prog 8 #[.int .u64 n, .slice ad len cap] w fun e w' => e = .returned (.bool true) ∧ w = w' := by
  have h' : ¬ (1048576 : Int) < (len : Int) := by omega
  go_enter Tryf.func8, Tryf.ntmps8
  go_wp2
  go_ret
  exact ⟨by simp, rfl⟩

set_option maxHeartbeats 1000000 in
theorem cuts_some (F : Interp) (a : Addr) (cap : Nat) (n : Int) (xs : List Int) (w : World) (hF : F.answers w.tape) (h4 : xs.length ≤ 4096) (hr : ∀ i, 0 ≤ xs.getD i 0 ∧ xs.getD i 0 ≤ 255)
    (hcell : ∀ i, i < xs.length → w.cell? (a.add i) = some (.int .u8 (xs.getD i 0))) :
    Calls Tryf.prog 4 #[.int .u64 n, .slice (some a) xs.length cap] w fun e w' => e = .returned (.bool true) ∧ Below w.heap.size w w' := by
  have hnn := neq_nil
  have hmk := fun w => run_made w xs.length (by omega)
  have hcp := fun ty => run_copied w ty a cap xs hcell
  have h4' : (xs.length : Int) ≤ 4096 := by omega
  have h4b : decide ((4096 : Int) < (xs.length : Int)) = false := by simp; omega
  have h4c : decide ((1048576 : Int) < (xs.length : Int)) = false := by simp; omega
  have hm : Hid (xs.length ≤ maxLen) := by show xs.length ≤ maxLen; unfold maxLen; omega
  have HR := hide hr
  have HF := hide hF
  obtain ⟨x, hx⟩ : ∃ x, x = xs.getD 0 0 := ⟨_, rfl⟩
  have HX := hide hx
  clear hcell hr hF hx
  go_enter Tryf.func4, Tryf.ntmps4
  go_wp2_with (first | (go_at_call 6; fail) | (go_at_call 8; refine (size_ok _ _ _ _ _ (by omega)).mono ?_; rintro e w' ⟨rfl, rfl⟩))
  clear hmk hcp hnn
  go_loopw [6, 7, 8] (fun c t i wr => ∃ k : Nat, k ≤ xs.length + 1 ∧ i = .int .i64 (k : Int) ∧ c = .int .i64 (cntTo x k) ∧ t = .int .i64 (atTo x k) ∧ Below (w.heap.size + 1) (w.alloc (.cells (byteCells xs) 5)) wr) (fun _ _ i _ => xs.length + 1 - (intOf i).toNat)
  case atStart => exact ⟨0, by omega, rfl, by simp [cntTo], by simp [atTo], Below.refl _ _⟩
  case round =>
    obtain ⟨k, hk, rfl, rfl, rfl, hb⟩ := hrel
    have hcb := cnt_bd x k
    by_cases hlt : (k : Int) ≤ xs.length
    · have r1 := hide (row_copied w xs hm.out HR.out wr hb k (by omega))
      have ht : Hid (F.answers wr.tape) := hide (by rw [hb.tape]; exact HF.out)
      have hgt := hide (good_take xs k (by omega))
      by_cases hg : (k = 5 ∧ x = 1) ∨ (k = 3 ∧ x = 5)
      · have HG : Hid (Good (xs.take k) = true) := hide (by rw [unhide hgt, ← HX.out]; simp only [decide_eq_true_eq]; exact hg)
        have HS := hide (step_yes x k hg)
        clear hg hgt
        go_wp2_with fail
        refine (outlives_ctl F _ _ (xs.take k) _ ht.out r1.out).mono ?_
        rintro e w2 ⟨rfl, hb2⟩
        have HB := hide (hb.trans (hb2.mono (by have := hb.size; simp at this; omega)))
        rw [unhide HG]
        clear hb2
        go_wp2
        go_roundw
        case rel => exact ⟨k + 1, by omega, by go_num, by rw [(unhide HS).1], by rw [(unhide HS).2.1], HB.out⟩
        case measure => simp [intOf]; omega
      · have HG : Hid (Good (xs.take k) = false) := hide (by rw [unhide hgt, ← HX.out]; simp only [decide_eq_false_iff_not]; exact hg)
        have HS := hide (step_no x k hg)
        clear hg hgt
        go_wp2_with fail
        refine (outlives_ctl F _ _ (xs.take k) _ ht.out r1.out).mono ?_
        rintro e w2 ⟨rfl, hb2⟩
        have HB := hide (hb.trans (hb2.mono (by have := hb.size; simp at this; omega)))
        rw [unhide HG]
        clear hb2
        go_wp2
        go_roundw
        case rel => exact ⟨k + 1, by omega, by go_num, by rw [(unhide HS).1], by rw [(unhide HS).2], HB.out⟩
        case measure => simp [intOf]; omega
    · obtain rfl : k = xs.length + 1 := by omega
      have HB : Hid (Below w.heap.size w wr) := hide (((Below.refl _ _).alloc (Nat.le_refl _) _).trans (hb.mono (by omega)))
      have hc0 : (0 : Int) < xs.length → wr.cell? ⟨w.heap.size, 0, none⟩ = some (.int .u8 x) := by
        intro h
        have rr := row_copied w xs hm.out HR.out wr hb xs.length (Nat.le_refl _)
        rw [List.take_of_length_le (Nat.le_refl _)] at rr
        obtain ⟨g, off, cp, e, c⟩ := rr.byte (by omega)
        cases e
        rw [← HX.out] at c
        exact c
      clear hb hcb
      have hcases : (x = 1) ∨ (x = 5) ∨ ((x == 1) = false ∧ (x == 5) = false) := by
        by_cases h1 : x = 1
        · exact .inl h1
        · by_cases h5 : x = 5
          · exact .inr (.inl h5)
          · exact .inr (.inr ⟨beq_eq_false_iff_ne.2 h1, beq_eq_false_iff_ne.2 h5⟩)
      by_cases h3 : (3 : Int) ≤ xs.length
      · have hd3 : decide ((3 : Int) ≤ xs.length) = true := by simpa using h3
        have hc1 := hc0 (by omega)
        have hp : (0 : Int) < xs.length := by omega
        clear hc0
        by_cases h5 : (5 : Int) ≤ xs.length
        · have hd5 : decide ((5 : Int) ≤ xs.length) = true := by simpa using h5
          rcases hcases with rfl | rfl | ⟨n1, n5⟩
          · have e1 : cntTo 1 (xs.length + 1) = 1 := by unfold cntTo; rw [if_pos (by omega)]
            have e2 : atTo 1 (xs.length + 1) = 5 := by unfold atTo; rw [if_pos (by omega)]
            go_wp2
            go_ret
            exact ⟨by simp, HB.out⟩
          · have e1 : cntTo 5 (xs.length + 1) = 1 := by unfold cntTo; rw [if_pos (by omega)]
            have e2 : atTo 5 (xs.length + 1) = 3 := by unfold atTo; rw [if_neg (by omega), if_pos (by omega)]
            go_wp2
            go_ret
            exact ⟨by simp, HB.out⟩
          · have m1 : x ≠ 1 := by simpa using n1
            have m5 : x ≠ 5 := by simpa using n5
            have e1 : cntTo x (xs.length + 1) = 0 := by unfold cntTo; rw [if_neg (by omega)]
            have e2 : atTo x (xs.length + 1) = -1 := by unfold atTo; rw [if_neg (by omega), if_neg (by omega)]
            clear m1 m5
            go_wp2
            go_ret
            exact ⟨by simp, HB.out⟩
        · have hd5 : decide ((5 : Int) ≤ xs.length) = false := by simpa using h5
          rcases hcases with rfl | rfl | ⟨n1, n5⟩
          · have e1 : cntTo 1 (xs.length + 1) = 0 := by unfold cntTo; rw [if_neg (by omega)]
            have e2 : atTo 1 (xs.length + 1) = -1 := by unfold atTo; rw [if_neg (by omega), if_neg (by omega)]
            go_wp2
            go_ret
            exact ⟨by simp, HB.out⟩
          · have e1 : cntTo 5 (xs.length + 1) = 1 := by unfold cntTo; rw [if_pos (by omega)]
            have e2 : atTo 5 (xs.length + 1) = 3 := by unfold atTo; rw [if_neg (by omega), if_pos (by omega)]
            go_wp2
            go_ret
            exact ⟨by simp, HB.out⟩
          · have m1 : x ≠ 1 := by simpa using n1
            have m5 : x ≠ 5 := by simpa using n5
            have e1 : cntTo x (xs.length + 1) = 0 := by unfold cntTo; rw [if_neg (by omega)]
            have e2 : atTo x (xs.length + 1) = -1 := by unfold atTo; rw [if_neg (by omega), if_neg (by omega)]
            clear m1 m5
            go_wp2
            go_ret
            exact ⟨by simp, HB.out⟩
      · have hd3 : decide ((3 : Int) ≤ xs.length) = false := by simpa using h3
        have hd5 : decide ((5 : Int) ≤ xs.length) = false := by simp; omega
        have e1 : cntTo x (xs.length + 1) = 0 := by unfold cntTo; rw [if_neg (by omega)]
        have e2 : atTo x (xs.length + 1) = -1 := by unfold atTo; rw [if_neg (by omega), if_neg (by omega)]
        clear hc0 hcases
        go_wp2
        go_ret
        exact ⟨by simp, HB.out⟩

set_option maxHeartbeats 1000000 in
theorem cuts_none (F : Interp) (n : Int) (w : World) (hF : F.answers w.tape) :
    Calls Tryf.prog 4 #[.int .u64 n, .slice none 0 0] w fun e w' => e = .returned (.bool true) ∧ Below w.heap.size w w' := by
  have hnn := neq_nil
  have HF := hide hF
  clear hF
  go_enter Tryf.func4, Tryf.ntmps4
  go_wp2_with (first | (go_at_call 6; fail) | (go_at_call 8; refine (size_ok _ _ _ _ _ (by omega)).mono ?_; rintro e w' ⟨rfl, rfl⟩))
  clear hnn
  refine wp_loop_rounds 2 ?_
  rw [rounds_succ]
  go_wp2_with fail
  refine (outlives_ctl F _ _ [] _ HF.out (.inl ⟨rfl, rfl⟩)).mono ?_
  rintro e w2 ⟨rfl, hb2⟩
  rw [show Good [] = false from rfl]
  go_wp2_with fail
  rw [rounds_succ]
  go_wp2_with fail
  go_ret
  exact ⟨by simp, hb2⟩

set_option maxHeartbeats 400000 in
theorem cuts_big (a : Option Addr) (len cap : Nat) (n : Int) (w : World) (h4 : 4096 < len) (h5 : (len : Int) ≤ 9223372036854775807) :
    Calls Tryf.prog 4 #[.int .u64 n, .slice a len cap] w fun e w' => e = .returned (.bool true) ∧ Below w.heap.size w w' := by
  have h4' : (4096 : Int) < (len : Int) := by omega
  go_enter Tryf.func4, Tryf.ntmps4
  go_wp2
  all_goals
    go_ret
    exact ⟨by simp, Below.refl _ _⟩
end Go.Proofs.Qxb6614337aFmt
