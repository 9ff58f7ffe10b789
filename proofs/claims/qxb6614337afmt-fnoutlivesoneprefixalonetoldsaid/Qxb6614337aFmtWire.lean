import Derived.Test.Qxb6614337aFmtOut
import Derived.Test.Qxb6614337aFmtCopy
namespace Go.Proofs.Qxb6614337aFmt
open Go.RowKit Go.Extern.Stop Go.Stop Go.Extern
set_option linter.unusedVariables false

theorem neq_nil (w : World) (a : Option Addr) (n c n' c' : Nat) : (binOp .neq 23 (.slice a n c) (.slice none n' c')).run Tryf.prog w = .ok (.bool (!a.isNone)) w :=
  run_neq_slice_nil_any w 23 5 a n c n' c' Tryf.underlying23

def byteCells (xs : List Int) : Array Value := (xs.map (Value.int .u8)).toArray

theorem run_copied (w : World) (ty : TypeId) (a : Addr) (cap : Nat) (xs : List Int) (hcell : ∀ i, i < xs.length → w.cell? (a.add i) = some (.int .u8 (xs.getD i 0))) :
    (Builtin.copy_ #[23, 23] ty #[.slice (some ⟨w.heap.size, 0, none⟩) xs.length xs.length, .slice (some a) xs.length cap]).run Tryf.prog (w.alloc (.cells (zeros xs.length) 5)) =
      .ok (goInt xs.length) (w.alloc (.cells (byteCells xs) 5)) := by
  refine Copied.run_copy_made w 23 ty 5 a xs.length cap (zeros xs.length) (xs.map (Value.int .u8)) Tryf.underlying23 (by kernel_rfl) (by simp [zeros, size_madeCells]) (by simp) ?_ ?_
  · intro j v h
    obtain ⟨hj, rfl⟩ := List.getElem?_eq_some_iff.1 h
    simp at hj
    rw [hcell j hj]
    simp [hj]
  · intro v hv
    obtain ⟨b, _, rfl⟩ := List.mem_map.1 hv
    rfl

/-- The copy, and each of its heads, as a row of bytes. -/
theorem row_copied (w : World) (xs : List Int) (hm : xs.length ≤ maxLen) (hr : ∀ i, 0 ≤ xs.getD i 0 ∧ xs.getD i 0 ≤ 255) (w' : World) (hb : Below (w.heap.size + 1) (w.alloc (.cells (byteCells xs) 5)) w') (i : Nat) (hi : i ≤ xs.length) :
    Row w' w'.heap.size (.slice (some ⟨w.heap.size, 0, none⟩) i xs.length) (xs.take i) := by
  have hl : (xs.take i).length = i := by simp; omega
  have hlt : w.heap.size < w'.heap.size := by have := hb.size; simp at this; omega
  refine .inr ⟨w.heap.size, 0, xs.length, by rw [hl], by omega, hm, by omega, hlt, ?_, ?_⟩
  · intro j hj
    rw [hl] at hj
    have hj' : j < xs.length := by omega
    rw [hb.cell (p := ⟨w.heap.size, 0 + j, none⟩) (by show w.heap.size < w.heap.size + 1; omega), World.cell?_alloc_at _ _ _ _ rfl]
    simp [byteCells, hj, hj']
  · intro j
    by_cases hj : j < i
    · have e : (xs.take i).getD j 0 = xs.getD j 0 := by simp [List.getD, hj]
      rw [e]; exact hr j
    · rw [List.getD, List.getElem?_eq_none (by omega)]; simp

set_option maxHeartbeats 1000000 in
theorem wire_some (F : Interp) (a : Addr) (cap : Nat) (n : Int) (xs : List Int) (w : World) (hF : F.answers w.tape) (h4 : xs.length ≤ 1048576) (hr : ∀ i, 0 ≤ xs.getD i 0 ∧ xs.getD i 0 ≤ 255)
    (hcell : ∀ i, i < xs.length → w.cell? (a.add i) = some (.int .u8 (xs.getD i 0))) :
    Calls Tryf.prog 3 #[.int .u64 n, .slice (some a) xs.length cap] w fun e w' => e = .returned (.bool true) ∧ Below w.heap.size w w' := by
  have hnn := neq_nil
  have hmk := fun w => run_made w xs.length h4
  have hcp := fun ty => run_copied w ty a cap xs hcell
  have h4' : (xs.length : Int) ≤ 1048576 := by omega
  have h4'' : ¬ (1048576 : Int) < (xs.length : Int) := by omega
  have HR := hide hr
  have HF := hide hF
  clear hcell hr hF
  go_enter Tryf.func3, Tryf.ntmps3
  go_wp2_with (first | (go_at_call 6; fail) | (go_at_call 7; fail) | (go_at_call 5; go_in))
  refine (outlives_app _ _ _ _ _).mono ?_
  rintro e w1 ⟨rfl, hb1⟩
  clear hmk hcp hnn
  have hB1 : Below w.heap.size w w1 := ((Below.refl _ _).alloc (Nat.le_refl _) _).trans (hb1.mono (by simp))
  have HB1 := hide (hb1.mono (show w.heap.size + 1 ≤ _ by simp))
  go_wp2_with fail
  have hm : xs.length ≤ maxLen := by unfold maxLen; omega
  have r1 := row_copied w xs hm HR.out w1 HB1.out xs.length (Nat.le_refl _)
  rw [List.take_of_length_le (Nat.le_refl _)] at r1
  refine (outlives_ctl F _ _ xs _ (by rw [hB1.tape]; exact HF.out) r1).mono ?_
  rintro e w2 ⟨rfl, hb2⟩
  have HB2 := hide (HB1.out.trans (hb2.mono (by have := HB1.out.size; simp at this; omega)))
  have hB2 : Below w.heap.size w w2 := hB1.trans (hb2.mono hB1.size)
  clear r1 hb2 HB1 hB1 hb1
  generalize hgd : Good xs = gd at *
  have HG := hide hgd
  clear hgd
  have r2 := row_copied w xs hm HR.out w2 HB2.out xs.length (Nat.le_refl _)
  rw [List.take_of_length_le (Nat.le_refl _)] at r2
  have R2 := hide r2
  clear r2
  cases gd
  all_goals
    go_wp2_with fail
    refine (control_any _ xs _ R2.out h4).mono ?_
    rintro e w3 ⟨rfl, hw3⟩
    subst hw3
    rw [unhide HG]
    go_wp2
    go_ret
    exact ⟨by simp, hB2⟩

set_option maxHeartbeats 1000000 in
theorem wire_none (F : Interp) (n : Int) (w : World) (hF : F.answers w.tape) :
    Calls Tryf.prog 3 #[.int .u64 n, .slice none 0 0] w fun e w' => e = .returned (.bool true) ∧ Below w.heap.size w w' := by
  have hnn := neq_nil
  have HF := hide hF
  clear hF
  go_enter Tryf.func3, Tryf.ntmps3
  go_wp2_with (first | (go_at_call 6; fail) | (go_at_call 7; fail) | (go_at_call 5; go_in))
  refine (outlives_app _ _ _ _ _).mono ?_
  rintro e w1 ⟨rfl, hb1⟩
  clear hnn
  go_wp2_with fail
  refine (outlives_ctl F _ _ [] _ (by rw [hb1.tape]; exact HF.out) (.inl ⟨rfl, rfl⟩)).mono ?_
  rintro e w2 ⟨rfl, hb2⟩
  have hB2 : Below w.heap.size w w2 := hb1.trans (hb2.mono hb1.size)
  rw [show Good [] = false from rfl]
  go_wp2_with fail
  refine (control_any _ [] _ (.inl ⟨rfl, rfl⟩) (by simp)).mono ?_
  rintro e w3 ⟨rfl, hw3⟩
  subst hw3
  rw [show Good [] = false from rfl]
  go_wp2
  go_ret
  exact ⟨by simp, hB2⟩

set_option maxHeartbeats 400000 in
theorem wire_big (a : Option Addr) (len cap : Nat) (n : Int) (w : World) (h4 : 1048576 < len) (h5 : (len : Int) ≤ 9223372036854775807) :
    Calls Tryf.prog 3 #[.int .u64 n, .slice a len cap] w fun e w' => e = .returned (.bool true) ∧ Below w.heap.size w w' := by
  have h4' : (1048576 : Int) < (len : Int) := by omega
  go_enter Tryf.func3, Tryf.ntmps3
  go_wp2
  go_ret
  exact ⟨by simp, Below.refl _ _⟩
end Go.Proofs.Qxb6614337aFmt
