import Derived.Test.Qxb6614337aLaw
namespace Go.Proofs.Qxb6614337a
open Go.RowKit

theorem Try.info4 : (Try.prog.info? 4).map (fun i => (i.zero, i.size, i.bytes)) = some (some (.bool false), 1, 1) := by kernel_rfl
theorem Try.size4 : (Try.prog.info? 4).map (·.size) = some 1 := by kernel_rfl
theorem neq_nil (w : World) (a : Option Addr) (n c n' c' : Nat) : (binOp .neq 23 (.slice a n c) (.slice none n' c')).run Try.prog w = .ok (.bool (!a.isNone)) w :=
  run_neq_slice_nil_any w 23 4 a n c n' c' Try.underlying23

/-- The cells of a new row of n bools: a name of its own, so that the walk leaves it standing. -/
def made (n : Nat) : Array Value := madeCells (Value.bool false).cells (n * 1)
def boolCells (bs : List Bool) : Array Value := (bs.map Value.bool).toArray

theorem run_made (w : World) (n : Nat) (h : n ≤ 1048576) :
    (Instr.makeSlice 23 (.int .i64 (n : Int)) (.int .i64 (n : Int))).run Try.prog w = .ok (.slice (some ⟨w.heap.size, 0, none⟩) n n) (w.alloc (.cells (made n) 4)) := by
  obtain ⟨i0, hi, hz0, hz1, hz2⟩ := info_parts Try.info4
  have h := run_make (P := Try.prog) w 23 4 i0 (.bool false) Try.underlying23 hi hz0 .i64 .i64 n n (by omega) (by omega) (by rw [hz2]; omega) (by omega)
  rw [h, hz1]
  simp [made]

theorem run_copied (w : World) (ty : TypeId) (a : Addr) (cap : Nat) (bs : List Bool) (hcell : ∀ i, i < bs.length → w.cell? (a.add i) = some (.bool (heldAt bs i))) :
    (Builtin.copy_ #[23, 23] ty #[.slice (some ⟨w.heap.size, 0, none⟩) bs.length bs.length, .slice (some a) bs.length cap]).run Try.prog (w.alloc (.cells (made bs.length) 4)) =
      .ok (goInt bs.length) (w.alloc (.cells (boolCells bs) 4)) := by
  refine Copied.run_copy_made w 23 ty 4 a bs.length cap (made bs.length) (bs.map Value.bool) Try.underlying23 Try.size4 (by simp [made, size_madeCells]) (by simp) ?_ ?_
  · intro j v h
    obtain ⟨hj, rfl⟩ := List.getElem?_eq_some_iff.1 h
    simp at hj
    rw [hcell j hj]
    simp [heldAt, hj]
  · intro v hv
    obtain ⟨b, _, rfl⟩ := List.mem_map.1 hv
    rfl

set_option maxHeartbeats 400000 in
theorem new_any (ad : Option Addr) (aru : Int) (n : Nat) (w : World) :
    Calls Try.prog 5 #[.int .u64 aru, .slice ad n n] w fun e w' => e = .returned (.pointer (some ⟨w.heap.size, 0, none⟩)) ∧
      w'.cell? ⟨w.heap.size, 55, none⟩ = some (.int .u64 aru) ∧ w'.cell? ⟨w.heap.size, 56, none⟩ = some (.slice ad n n) ∧ Below w.heap.size w w' := by
  go_enter Try.func5, Try.ntmps5
  go_wp2
  go_ret
  exact ⟨rfl, by simp, by simp, (Below.refl _ _).alloc (Nat.le_refl _) _⟩

def cnt (bs : List Bool) (j : Nat) : Nat := (bs.take j).countP id
theorem cnt_le (bs : List Bool) (j : Nat) : cnt bs j ≤ j := by
  unfold cnt
  exact Nat.le_trans List.countP_le_length (by simp; omega)
theorem cnt_succ (bs : List Bool) (j : Nat) : cnt bs (j + 1) = cnt bs j + if heldAt bs j then 1 else 0 := by
  unfold cnt heldAt
  by_cases h : j < bs.length
  · rw [List.take_succ_eq_append_getElem h, List.countP_append]
    simp [h, List.countP_cons]
  · rw [List.take_of_length_le (by omega), List.take_of_length_le (by omega)]
    simp [List.getElem?_eq_none (Nat.le_of_not_lt h)]
theorem held_out (bs : List Bool) : heldAt bs bs.length = false := by simp [heldAt]

set_option maxHeartbeats 400000 in
theorem walk_some (a : Addr) (cap : Nat) (aru : Int) (bs : List Bool) (w : World) (h0 : 0 ≤ aru) (h2 : aru ≤ 18446744073709551615) (h4 : bs.length ≤ 1048576)
    (hcell : ∀ i, i < bs.length → w.cell? (a.add i) = some (.bool (heldAt bs i))) :
    Calls Try.prog 3 #[.int .u64 aru, .slice (some a) bs.length cap] w fun e w' => e = .returned (.bool true) ∧ Below w.heap.size w w' := by
  have hnn := neq_nil
  have hmk := fun w => run_made w bs.length h4
  have hcp := fun ty => run_copied w ty a cap bs hcell
  have h4' : (bs.length : Int) ≤ 1048576 := by omega
  have h4'' : ¬ (1048576 : Int) < (bs.length : Int) := by omega
  clear hcell
  go_enter Try.func3, Try.ntmps3
  go_wp2_with (first | (go_at_call 6; fail) | (go_at_call 5; fail) | (go_at_call 4; go_in))
  refine (new_any _ _ _ _).mono ?_
  rintro e w1 ⟨rfl, hc1, hc2, hbel⟩
  obtain ⟨B, hB⟩ : ∃ B, B = (w.alloc (.cells (boolCells bs) 4)).heap.size := ⟨_, rfl⟩
  have hcm : Cm w1 B w.heap.size (some ⟨w.heap.size, 0, none⟩) aru bs := by
    refine ⟨hB ▸ hc1, hB ▸ hc2, fun _ => rfl, fun k hk => ?_⟩
    rw [hbel.cell (by simp), World.cell?_alloc_at _ _ _ _ rfl]
    simp [boolCells, heldAt, hk]
  have hb1 : Below w.heap.size w w1 := ((Below.refl _ _).alloc (Nat.le_refl _) _).trans (hbel.mono (by simp))
  clear hc1 hc2 hbel hmk hcp hnn
  rw [← hB]
  clear hB
  go_wp2_with (first | (go_at_call 6; fail))
  refine (zz_le B w.heap.size _ aru 0 bs _ hcm (by omega) h0 h2).mono ?_
  rintro e w2 ⟨rfl, n2, rfl⟩
  go_wp2_with (first | (go_at_call 6; fail))
  refine (zz_le B w.heap.size _ aru aru bs _ (hcm.drewN n2) h0 (by omega) h2).mono ?_
  rintro e w3 ⟨rfl, n3, rfl⟩
  obtain ⟨r, hr1, hr2, hr3⟩ : ∃ r : Nat, (r : Int) ≤ bs.length ∧ (r : Int) ≤ 18446744073709551615 - aru ∧ ((r : Int) = bs.length ∨ (r : Int) = 18446744073709551615 - aru) := by
    by_cases h : (bs.length : Int) ≤ 18446744073709551615 - aru
    · exact ⟨bs.length, by omega, by omega, by omega⟩
    · exact ⟨(18446744073709551615 - aru).toNat, by omega, by omega, by omega⟩
  have hq : decide (18446744073709551615 - aru < (bs.length : Int)) = true ∨ decide (18446744073709551615 - aru < (bs.length : Int)) = false := by
    cases decide (18446744073709551615 - aru < (bs.length : Int)) <;> simp
  rcases hq with hq | hq
  all_goals
    have hq' := hq
    simp only [decide_eq_true_eq, decide_eq_false_iff_not, Int.not_lt] at hq'
    go_wp2_with fail
    go_loopw [9, 11] (fun got k wr => ∃ j n : Nat, (j : Int) ≤ r ∧ k = .int .u64 ((j : Int) + 1) ∧ got = .int .i64 (cnt bs j : Int) ∧ wr = w1.drewN n) (fun _ k _ => r + 1 - (intOf k).toNat)
    case atStart => exact ⟨0, n2 + n3, by omega, by simp, by simp [cnt], rfl⟩
    case round =>
      obtain ⟨j, n, hj, rfl, rfl, rfl⟩ := hrel
      have hcl := cnt_le bs j
      have hcs := cnt_succ bs j
      by_cases hlt : (j : Int) < r
      · have hz := zz_gt B w.heap.size j _ aru (aru + ((j : Int) + 1)) bs (w1.drewN n) (hcm.drewN n) h0 (by omega) (by omega) h4
        cases hb : heldAt bs j
        all_goals
          simp only [hb, if_true, if_false, Bool.false_eq_true, Nat.add_zero] at hz hcs
          have HC := hide hcs
          have HZ := hide hz
          clear hcs hz hb
          go_wp2_with (go_at_call 6; refine (unhide HZ).mono ?_; rintro e w' ⟨rfl, n', rfl⟩)
          go_roundw
          case rel => exact ⟨j + 1, _, by omega, by go_num, by rw [unhide HC] <;> go_num, rfl⟩
          case measure => simp [intOf]; omega
      · obtain rfl : j = r := by omega
        have HL : Hid (heldAt bs bs.length = false) := held_out bs
        clear hcs
        go_wp2_with fail
        go_loopw [10, 12] (fun want i wr => ∃ m : Nat, (m : Int) ≤ j ∧ i = .int .u64 (m : Int) ∧ want = .int .i64 (cnt bs m : Int) ∧ wr = w1.drewN n) (fun _ i _ => j - (intOf i).toNat)
        case atStart => exact ⟨0, by omega, by simp, by simp [cnt], rfl⟩
        case round =>
          obtain ⟨m, hm, rfl, rfl, rfl⟩ := hrel
          have hcl2 := cnt_le bs m
          by_cases hlt2 : (m : Int) < j
          · have hcs2 := cnt_succ bs m
            have hcellm : w1.cell? ⟨w.heap.size, m, none⟩ = some (.bool (heldAt bs m)) := hcm.2.2.2 m (by omega)
            have hml : (m : Int) < bs.length := by omega
            cases hb : heldAt bs m
            all_goals
              simp only [hb, if_true, if_false, Bool.false_eq_true, Nat.add_zero] at hcellm hcs2
              have HC := hide hcs2
              clear hcs2 hb
              go_wp2
              go_roundw
              case rel => exact ⟨m + 1, by omega, by go_num, by rw [unhide HC] <;> go_num, by first | rfl | trivial⟩
              case measure => simp [intOf]; omega
          · obtain rfl : m = j := by omega
            by_cases hl : (bs.length : Int) < 18446744073709551615 - aru
            · have hz := zz_gt B w.heap.size bs.length _ aru (aru + (bs.length : Int) + 1) bs (w1.drewN n) (hcm.drewN n) h0 (by omega) (by omega) h4
              rw [unhide HL] at hz
              have HZ := hide hz
              clear hz
              go_wp2_with (go_at_call 6; refine (unhide HZ).mono ?_; rintro e w' ⟨rfl, n', rfl⟩)
              all_goals
                go_ret
                exact ⟨by simp, below_drewN hb1 _⟩
            · have hl' : decide ((bs.length : Int) < 18446744073709551615 - aru) = false := by simpa using hl
              go_wp2_with (go_at_call 6; fail)
              all_goals
                go_ret
                exact ⟨by simp, below_drewN hb1 _⟩

set_option maxHeartbeats 400000 in
theorem walk_none (aru : Int) (w : World) (h0 : 0 ≤ aru) (h2 : aru ≤ 18446744073709551615) :
    Calls Try.prog 3 #[.int .u64 aru, .slice none 0 0] w fun e w' => e = .returned (.bool true) ∧ Below w.heap.size w w' := by
  have hnn := neq_nil
  go_enter Try.func3, Try.ntmps3
  go_wp2_with (first | (go_at_call 6; fail) | (go_at_call 5; fail) | (go_at_call 4; go_in))
  refine (new_any _ _ _ _).mono ?_
  rintro e w1 ⟨rfl, hc1, hc2, hbel⟩
  have hcm : Cm w1 w.heap.size 0 none aru [] := ⟨hc1, hc2, fun h => absurd h (by simp), fun k hk => absurd hk (by simp)⟩
  clear hc1 hc2 hnn
  go_wp2_with (first | (go_at_call 6; fail))
  refine (zz_le w.heap.size 0 _ aru 0 [] _ hcm (by omega) h0 h2).mono ?_
  rintro e w2 ⟨rfl, n2, rfl⟩
  go_wp2_with (first | (go_at_call 6; fail))
  refine (zz_le w.heap.size 0 _ aru aru [] _ (hcm.drewN n2) h0 (by omega) h2).mono ?_
  rintro e w3 ⟨rfl, n3, rfl⟩
  have hq : decide (18446744073709551615 - aru < (0 : Int)) = false := by simp; omega
  go_wp2_with fail
  refine wp_loop_rounds 1 ?_
  rw [rounds_succ]
  go_wp2_with fail
  refine wp_loop_rounds 1 ?_
  rw [rounds_succ]
  by_cases hl : (0 : Int) < 18446744073709551615 - aru
  · have hz := zz_gt w.heap.size 0 0 _ aru (aru + 1) [] (w1.drewN (n2 + n3)) (hcm.drewN _) h0 (by omega) (by omega) (by simp)
    rw [show heldAt [] 0 = false from rfl] at hz
    have HZ := hide hz
    clear hz
    go_wp2_with (go_at_call 6; refine (unhide HZ).mono ?_; rintro e w' ⟨rfl, n', rfl⟩)
    go_ret
    exact ⟨by simp, below_drewN hbel _⟩
  · have hl' : decide ((0 : Int) < 18446744073709551615 - aru) = false := by simpa using hl
    go_wp2_with (go_at_call 6; fail)
    go_ret
    exact ⟨by simp, below_drewN hbel _⟩

set_option maxHeartbeats 400000 in
theorem walk_big (a : Option Addr) (len cap : Nat) (aru : Int) (w : World) (h4 : 1048576 < len) (h5 : (len : Int) ≤ 9223372036854775807) :
    Calls Try.prog 3 #[.int .u64 aru, .slice a len cap] w fun e w' => e = .returned (.bool true) ∧ Below w.heap.size w w' := by
  have h4' : (1048576 : Int) < (len : Int) := by omega
  go_enter Try.func3, Try.ntmps3
  go_wp2
  go_ret
  exact ⟨by simp, Below.refl _ _⟩
end Go.Proofs.Qxb6614337a
