import Derived.Test.Qxb6614379aGrow
namespace Go.Proofs.Qxb6614379a
open Go.RowKit
set_option linter.unusedVariables false

/-- The world behind the making of the first body: what it holds. 'X': the new blocks between. -/
theorem first_facts (w : World) (eb bb : Nat) (X : World) (e2 : w.cell? ⟨eb, 2, none⟩ = some (.pointer none)) (hX : X.heap.size = bb ∧ Below w.heap.size (w.setCell ⟨eb, 2, none⟩ (.pointer (some ⟨bb, 0, none⟩))) X) :
    eb < bb ∧ (X.alloc (.cells #[.slice none 0 0, .slice none 0 0] 98)).cell? ⟨eb, 2, none⟩ = some (.pointer (some ⟨bb, 0, none⟩)) ∧ (∀ j, j ≠ 2 → (X.alloc (.cells #[.slice none 0 0, .slice none 0 0] 98)).cell? ⟨eb, j, none⟩ = w.cell? ⟨eb, j, none⟩) ∧
    (X.alloc (.cells #[.slice none 0 0, .slice none 0 0] 98)).heap[bb]? = some (.cells #[.slice none 0 0, .slice none 0 0] 98 (0, 0)) ∧ Below eb w (X.alloc (.cells #[.slice none 0 0, .slice none 0 0] 98)) ∧
    eb < (X.alloc (.cells #[.slice none 0 0, .slice none 0 0] 98)).heap.size ∧ bb < (X.alloc (.cells #[.slice none 0 0, .slice none 0 0] 98)).heap.size := by
  obtain ⟨hs, hb⟩ := hX
  have le := lt_of_cell e2
  have hsz := hb.size
  have hsz' : (w.setCell ⟨eb, 2, none⟩ (.pointer (some ⟨bb, 0, none⟩))).heap.size = w.heap.size := by simp
  rw [hsz', hs] at hsz
  have hB : Below w.heap.size (w.setCell ⟨eb, 2, none⟩ (.pointer (some ⟨bb, 0, none⟩))) (X.alloc (.cells #[.slice none 0 0, .slice none 0 0] 98)) := hb.alloc (by omega) _
  refine ⟨by omega, ?_, ?_, ?_, ?_, ?_, ?_⟩
  · rw [hB.cell (p := ⟨eb, 2, none⟩) le]
    exact World.cell?_setCell_same _ _ _ e2
  · intro j hj
    rw [hB.cell (p := ⟨eb, j, none⟩) le]
    exact World.cell?_setCell_other _ _ _ _ (by intro e; cases e; exact hj rfl)
  · subst hs
    show (X.heap.push _)[X.heap.size]? = _
    rw [Array.getElem?_push_size]
  · exact ((Below.refl eb w).setCell (Nat.le_refl _) _).trans (hB.mono (by omega))
  · simp; omega
  · simp; omega

theorem free_of_heap {w : World} {b : Nat} {cs : Array Value} {t : TypeId} (h : w.heap[b]? = some (.cells cs t (0, 0))) (j : Nat) : w.frozen? ⟨b, j, none⟩ = false := by
  simp [World.frozen?, h]

set_option maxRecDepth 20000 in
set_option maxHeartbeats 4000000 in
theorem append_first (eb : Nat) (sp lo pf va : ByteArray) (w : World) (e2 : w.cell? ⟨eb, 2, none⟩ = some (.pointer none)) (fz : w.frozen? ⟨eb, 2, none⟩ = false) :
    Calls Try.prog 42 #[.pointer (some ⟨eb, 0, none⟩), .string sp, .string lo, .string pf, .string va] w fun e w' => e = .returned (.tuple #[]) ∧
      ∃ (p : Option Addr) (W : World) (bb : Nat), eb < bb ∧ W.cell? ⟨eb, 2, none⟩ = some (.pointer (some ⟨bb, 0, none⟩)) ∧ (∀ j, j ≠ 2 → W.cell? ⟨eb, j, none⟩ = w.cell? ⟨eb, j, none⟩) ∧ eb < W.heap.size ∧ Below eb w W ∧ Fin W eb bb 0 [] p sp lo pf va w' := by
  obtain ⟨i0, hi, hz0, hz1, hz2⟩ := info_parts Try.info93
  have le := lt_of_cell e2
  go_enter Try.func42, Try.ntmps42
  go_wp2_with fail
  · have hF := first_facts w eb (w.heap.size + 1) ((w.setCell ⟨eb, 2, none⟩ (.pointer (some ⟨w.heap.size + 1, 0, none⟩))).alloc (.cells #[.string sp] 68)) e2 ⟨by simp, (Below.refl _ _).alloc (by simp) _⟩
    obtain ⟨hlt, e2W, e0W, hBk, hBl, leW, lbW⟩ := hF
    have b0W := (cell_of_row _ _ 0 _ _ _ hBk)
    have f0W := free_of_heap hBk 0
    simp at b0W
    replace e0W := hide e0W
    have HBW := hide hBk
    have hBW := hide hBl
    clear hBk hBl e2 fz le
    generalize ((w.setCell ⟨eb, 2, none⟩ (.pointer (some ⟨w.heap.size + 1, 0, none⟩))).alloc (.cells #[.string sp] 68)).alloc (.cells #[.slice none 0 0, .slice none 0 0] 98) = W at *
    generalize w.heap.size + 1 = bb at *
    generalize some (⟨w.heap.size, 0, none⟩ : Addr) = p at *
    have HN1 : Hid (some eb ≠ (Value.slice none 0 0).ownBlock) := hide (by simp [Value.ownBlock])
    have HN2 : Hid (some bb ≠ (Value.slice none 0 0).ownBlock) := hide (by simp [Value.ownBlock])
    go_region_law (
      refine step_append_lies _ rfl (.tmp 36) (.tmp 44) 88 rfl (eb + 1) 93 i0 _ 6 80 Try.underlying88 hi hz0 hz1 hz2 rfl (by decide) (.slice none 0 0) 0 [] (by simp [Act.eval]) (World.ownsRow_nil _ _ _ _) ⟨W.heap.size, 0, none⟩ 1 1 [.string sp, .string lo, .pointer p, .string pf, .string va, .int .i64 0] (by simp [Act.eval]) rfl (World.news_of_block (cs := #[.string sp, .string lo, .pointer p, .string pf, .string va, .int .i64 0]) (t := 93) (fr := (0, 0)) (heap_new _ _)) (by intro u hu; simp at hu; rcases hu with rfl | rfl | rfl | rfl | rfl | rfl <;> rfl) (by omega) (by unfold maxLen; omega) (by omega) (by simp; omega) (W.heap.size + 1) (by simp) ?_
      intro g cap w1 hown1 hgrow hat hlt1
      have q0 : w1.cell? ⟨eb, 2, none⟩ = some (.pointer (some ⟨bb, 0, none⟩)) := (hgrow.cell_far ⟨eb, 2, none⟩ (by simp; omega) HN1.out).trans (((below_new W _).cell (p := ⟨eb, 2, none⟩) leW).trans e2W)
      have q1 : w1.cell? ⟨bb, 0, none⟩ = some (.slice none 0 0) := (hgrow.cell_far ⟨bb, 0, none⟩ (by simp; omega) HN2.out).trans (((below_new W _).cell (p := ⟨bb, 0, none⟩) lbW).trans b0W)
      have q2 : w1.frozen? ⟨bb, 0, none⟩ = false := (hgrow.frozen_far ⟨bb, 0, none⟩ (by simp; omega) HN2.out).trans (((below_new W _).frozen (p := ⟨bb, 0, none⟩) lbW).trans f0W)
      have HA := hide (fin_of hlt leW HBW.out (World.ownsRow_nil _ _ _ _) HN2.out _ hown1 hgrow)
      clear hown1 hgrow hat)
    all_goals
      go_end0
      exact ⟨rfl, p, W, bb, hlt, e2W, e0W.out, leW, hBW.out, HA.out⟩
  · have hF := first_facts w eb (w.heap.size) (w.setCell ⟨eb, 2, none⟩ (.pointer (some ⟨w.heap.size, 0, none⟩))) e2 ⟨by simp, Below.refl _ _⟩
    obtain ⟨hlt, e2W, e0W, hBk, hBl, leW, lbW⟩ := hF
    have b0W := (cell_of_row _ _ 0 _ _ _ hBk)
    have f0W := free_of_heap hBk 0
    simp at b0W
    replace e0W := hide e0W
    have HBW := hide hBk
    have hBW := hide hBl
    clear hBk hBl e2 fz le
    generalize (w.setCell ⟨eb, 2, none⟩ (.pointer (some ⟨w.heap.size, 0, none⟩))).alloc (.cells #[.slice none 0 0, .slice none 0 0] 98) = W at *
    generalize hbb : w.heap.size = bb at *
    have HN1 : Hid (some eb ≠ (Value.slice none 0 0).ownBlock) := hide (by simp [Value.ownBlock])
    have HN2 : Hid (some bb ≠ (Value.slice none 0 0).ownBlock) := hide (by simp [Value.ownBlock])
    go_region_law (
      refine step_append_lies _ rfl (.tmp 36) (.tmp 44) 88 rfl (eb + 1) 93 i0 _ 6 80 Try.underlying88 hi hz0 hz1 hz2 rfl (by decide) (.slice none 0 0) 0 [] (by simp [Act.eval]) (World.ownsRow_nil _ _ _ _) ⟨W.heap.size, 0, none⟩ 1 1 [.string sp, .string lo, .pointer none, .string pf, .string va, .int .i64 0] (by simp [Act.eval]) rfl (World.news_of_block (cs := #[.string sp, .string lo, .pointer none, .string pf, .string va, .int .i64 0]) (t := 93) (fr := (0, 0)) (heap_new _ _)) (by intro u hu; simp at hu; rcases hu with rfl | rfl | rfl | rfl | rfl | rfl <;> rfl) (by omega) (by unfold maxLen; omega) (by omega) (by simp; omega) (W.heap.size + 1) (by simp) ?_
      intro g cap w1 hown1 hgrow hat hlt1
      have q0 : w1.cell? ⟨eb, 2, none⟩ = some (.pointer (some ⟨bb, 0, none⟩)) := (hgrow.cell_far ⟨eb, 2, none⟩ (by simp; omega) HN1.out).trans (((below_new W _).cell (p := ⟨eb, 2, none⟩) leW).trans e2W)
      have q1 : w1.cell? ⟨bb, 0, none⟩ = some (.slice none 0 0) := (hgrow.cell_far ⟨bb, 0, none⟩ (by simp; omega) HN2.out).trans (((below_new W _).cell (p := ⟨bb, 0, none⟩) lbW).trans b0W)
      have q2 : w1.frozen? ⟨bb, 0, none⟩ = false := (hgrow.frozen_far ⟨bb, 0, none⟩ (by simp; omega) HN2.out).trans (((below_new W _).frozen (p := ⟨bb, 0, none⟩) lbW).trans f0W)
      have HA := hide (fin_of hlt leW HBW.out (World.ownsRow_nil _ _ _ _) HN2.out _ hown1 hgrow)
      clear hown1 hgrow hat)
    all_goals
      go_end0
      exact ⟨rfl, none, W, bb, hlt, e2W, e0W.out, leW, hBW.out, HA.out⟩
end Go.Proofs.Qxb6614379a
