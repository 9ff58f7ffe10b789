import Derived.Test.Qxb6614379aFind
import Derived.Deep.AppendLies
import Derived.Deep.RegionLaw
import Derived.OwnWalk
namespace Go.Proofs.Qxb6614379a
open Go.RowKit
set_option linter.unusedVariables false

theorem Try.info93 : (Try.prog.info? 93).map (fun i => (i.zero, i.size, i.bytes)) = some (some (.agg #[.string ⟨#[]⟩, .string ⟨#[]⟩, .pointer none, .string ⟨#[]⟩, .string ⟨#[]⟩, .int .i64 0]), 6, 80) := by kernel_rfl

def six (S L : Nat → ByteArray) (N : Nat → Option Addr) (P V : Nat → ByteArray) (k : Nat) : List Value := [.string (S k), .string (L k), .pointer (N k), .string (P k), .string (V k), .int .i64 0]
def cells (S L : Nat → ByteArray) (N : Nat → Option Addr) (P V : Nat → ByteArray) (n : Nat) : List Value := (List.range n).flatMap (six S L N P V)

theorem cells_succ (S L : Nat → ByteArray) (N : Nat → Option Addr) (P V : Nat → ByteArray) (n : Nat) : cells S L N P V (n + 1) = cells S L N P V n ++ six S L N P V n := by
  simp [cells, List.range_succ]
theorem cells_length (S L : Nat → ByteArray) (N : Nat → Option Addr) (P V : Nat → ByteArray) (n : Nat) : (cells S L N P V n).length = n * 6 := by
  induction n with
  | zero => rfl
  | succ n ih => rw [cells_succ, List.length_append, ih]; simp [six]; omega
theorem cells_congr (S L : Nat → ByteArray) (N N' : Nat → Option Addr) (P V : Nat → ByteArray) (n : Nat) (h : ∀ k, k < n → N' k = N k) : cells S L N' P V n = cells S L N P V n := by
  induction n with
  | zero => rfl
  | succ n ih => rw [cells_succ, cells_succ, ih (fun k hk => h k (by omega))]; simp [six, h n (by omega)]
theorem cells_at (S L : Nat → ByteArray) (N : Nat → Option Addr) (P V : Nat → ByteArray) (n k j : Nat) (hk : k < n) (hj : j < 6) : (cells S L N P V n)[k * 6 + j]? = (six S L N P V k)[j]? := by
  induction n with
  | zero => omega
  | succ n ih =>
    rw [cells_succ]
    by_cases h : k < n
    · rw [List.getElem?_append_left (by rw [cells_length]; omega)]
      exact ih h
    · obtain rfl : k = n := by omega
      rw [List.getElem?_append_right (by rw [cells_length]; omega), cells_length]
      congr 1
      omega

theorem lt_of_heap {w : World} {b : Nat} {o : Obj} (h : w.heap[b]? = some o) : b < w.heap.size := by
  rcases Nat.lt_or_ge b w.heap.size with hlt | hge
  · exact hlt
  · rw [Array.getElem?_eq_none hge] at h; cases h

theorem row_of_owns {w : World} {base : Nat} {ao : Option Addr} {n cap : Nat} {S L : Nat → ByteArray} {N : Nat → Option Addr} {P V : Nat → ByteArray}
    (h : w.ownsRow base 93 6 (.slice ao n cap) n (cells S L N P V n)) : Row w ao n S L N P V := by
  intro k hk
  obtain ⟨g, cap', hv, hb, hlt⟩ := h.form (by omega)
  simp only [Value.slice.injEq] at hv
  obtain ⟨rfl, _, rfl⟩ := hv
  have key : ∀ j, j < 6 → w.cell? ⟨g, k * 6 + j, none⟩ = (six S L N P V k)[j]? := fun j hj => by
    rw [h.cellAt (k * 6 + j) (by omega), cells_at S L N P V n k j hk hj]
  exact ⟨g, rfl, hlt, key 0 (by omega), key 1 (by omega), key 2 (by omega), key 3 (by omega), key 4 (by omega), key 5 (by omega)⟩

theorem owns_below {w w' : World} {base B e size : Nat} {v : Value} {n : Nat} {xs : List Value} (h : w.ownsRow base e size v n xs) (b : Below B w w') (hB : w.heap.size ≤ B) : w'.ownsRow base e size v n xs := by
  refine ⟨h.1, ?_⟩
  rcases h.2 with h0 | ⟨g, cap, cur, hv, hb, hg, hr⟩
  · exact .inl h0
  · exact .inr ⟨g, cap, cur, hv, hb, by rw [b.block g (by have := lt_of_heap hg; omega)]; exact hg, hr⟩

theorem heap_new (W : World) (o : Obj) : (W.drew.alloc o).heap[W.heap.size]? = some o := by
  show (W.heap.push o)[W.heap.size]? = _
  rw [Array.getElem?_push_size]
theorem below_new (W : World) (o : Obj) : Below W.heap.size W (W.drew.alloc o) := ((Below.refl _ _).drew).alloc (Nat.le_refl _) _

theorem two_setCell {w : World} {b : Nat} {v v' u : Value} {t : TypeId} (h : w.heap[b]? = some (.cells #[v, v'] t (0, 0))) : (w.setCell ⟨b, 0, none⟩ u).heap[b]? = some (.cells #[u, v'] t (0, 0)) := by
  have hlt := lt_of_heap h
  have h' : w.heap[b] = .cells #[v, v'] t (0, 0) := by simpa [Array.getElem?_eq_getElem hlt] using h
  show (w.heap.modify b _)[b]? = _
  rw [Array.getElem?_eq_getElem (by simpa using hlt), Array.getElem_modify_self, h']
  rfl

/-- What stands behind an append to the element's row: in the world W ahead of it. -/
def Fin (W : World) (eb bb n : Nat) (xs : List Value) (p : Option Addr) (sp lo pf va : ByteArray) (w' : World) : Prop :=
  ∃ v' : Value, w'.heap[bb]? = some (.cells #[v', .slice none 0 0] 98 (0, 0)) ∧ w'.ownsRow (eb + 1) 93 6 v' (n + 1) (xs ++ [.string sp, .string lo, .pointer p, .string pf, .string va, .int .i64 0]) ∧ Below (eb + 1) W w'

theorem fin_of {W w1 : World} {eb bb n g cap : Nat} {v : Value} {xs : List Value} {p : Option Addr} {sp lo pf va : ByteArray} (hlt : eb < bb) (leW : eb < W.heap.size) (hbk : W.heap[bb]? = some (.cells #[v, .slice none 0 0] 98 (0, 0))) (hv : W.ownsRow (eb + 1) 93 6 v n xs)
    (hne : some bb ≠ v.ownBlock) (o : Obj) (hown : w1.ownsRow (eb + 1) 93 6 (.slice (some ⟨g, 0, none⟩) (n + 1) cap) (n + 1) (xs ++ [.string sp, .string lo, .pointer p, .string pf, .string va, .int .i64 0])) (hgrow : (W.drew.alloc o).grownBy w1 v.ownBlock) :
    Fin W eb bb n xs p sp lo pf va (w1.setCell ⟨bb, 0, none⟩ (.slice (some ⟨g, 0, none⟩) (n + 1) cap)) := by
  have lb := lt_of_heap hbk
  have h1 : w1.heap[bb]? = some (.cells #[v, .slice none 0 0] 98 (0, 0)) := by
    rw [hgrow.block bb (by simp; omega) hne, (below_new W o).block bb lb]
    exact hbk
  have hgb : (Value.slice (some ⟨g, 0, none⟩) (n + 1) cap).ownBlock ≠ some bb := by
    intro e
    simp [Value.ownBlock] at e
    subst e
    rcases hown.2 with ⟨h0, _⟩ | ⟨g', cap', cur, hv', _, hg, _⟩
    · cases h0
    · simp only [Value.slice.injEq, Option.some.injEq, Addr.mk.injEq] at hv'
      rw [← hv'.1.1, h1] at hg
      simp at hg
  have hb : Below (eb + 1) W w1 := ((below_new W o).mono leW).grown hgrow (by simp; omega) (fun k hk => (hv.lt k hk).1)
  exact ⟨_, two_setCell h1, ownsRow_setCell_other hown hgb _, hb.setCell (by show eb + 1 ≤ bb; omega) _⟩

set_option maxRecDepth 20000 in
set_option maxHeartbeats 4000000 in
theorem append_next (eb bb n : Nat) (sp lo pf va : ByteArray) (v : Value) (xs : List Value) (w : World) (hn : n ≤ 1024) (hlt : eb < bb)
    (e2 : w.cell? ⟨eb, 2, none⟩ = some (.pointer (some ⟨bb, 0, none⟩))) (hbk : w.heap[bb]? = some (.cells #[v, .slice none 0 0] 98 (0, 0))) (hown : w.ownsRow (eb + 1) 93 6 v n xs) :
    Calls Try.prog 42 #[.pointer (some ⟨eb, 0, none⟩), .string sp, .string lo, .string pf, .string va] w fun e w' => e = .returned (.tuple #[]) ∧
      ∃ (p : Option Addr) (W : World), Below (eb + 1) w W ∧ Fin W eb bb n xs p sp lo pf va w' := by
  obtain ⟨i0, hi, hz0, hz1, hz2⟩ := info_parts Try.info93
  have HO := hide hown
  have HB := hide hbk
  have b0 : w.cell? ⟨bb, 0, none⟩ = some v := by rw [cell_of_row w bb 0 _ _ _ hbk]; rfl
  have f0 : w.frozen? ⟨bb, 0, none⟩ = false := by simp [World.frozen?, hbk]
  have lb := lt_of_heap hbk
  have le := lt_of_cell e2
  clear hown hbk
  go_enter Try.func42, Try.ntmps42
  go_wp2_with fail
  · have hbW : Below w.heap.size w (w.alloc (.cells #[.string sp] 68)) := (Below.refl _ _).alloc (Nat.le_refl _) _
    have hB1 : Hid (Below (eb + 1) w (w.alloc (.cells #[.string sp] 68))) := hide (hbW.mono (by omega))
    have e2W : (w.alloc (.cells #[.string sp] 68)).cell? ⟨eb, 2, none⟩ = some (.pointer (some ⟨bb, 0, none⟩)) := (hbW.cell (p := ⟨eb, 2, none⟩) le).trans e2
    have b0W : (w.alloc (.cells #[.string sp] 68)).cell? ⟨bb, 0, none⟩ = some v := (hbW.cell (p := ⟨bb, 0, none⟩) lb).trans b0
    have f0W : (w.alloc (.cells #[.string sp] 68)).frozen? ⟨bb, 0, none⟩ = false := (hbW.frozen (p := ⟨bb, 0, none⟩) lb).trans f0
    have HBW := hide ((hbW.block bb lb).trans HB.out)
    have HOW := hide (owns_below HO.out hbW (Nat.le_refl _))
    have lbW : bb < (w.alloc (.cells #[.string sp] 68)).heap.size := by simp; omega
    have leW : eb < (w.alloc (.cells #[.string sp] 68)).heap.size := by simp; omega
    clear hbW e2 b0 f0 HB HO lb le
    generalize w.alloc (.cells #[.string sp] 68) = W at *
    generalize some (⟨w.heap.size, 0, none⟩ : Addr) = p at *
    have hne1 : some eb ≠ v.ownBlock := fun h => by have := HOW.out.lt eb h.symm; omega
    have hne2 : some bb ≠ v.ownBlock := fun h => by
      rcases HOW.out.2 with ⟨rfl, _⟩ | ⟨g, cap, cur, rfl, _, hg, _⟩
      · cases h
      · simp [Value.ownBlock] at h
        subst h
        rw [HBW.out] at hg
        simp at hg
    have HN1 := hide hne1
    have HN2 := hide hne2
    clear hne1 hne2
    go_region_law (
      refine step_append_lies _ rfl (.tmp 36) (.tmp 44) 88 rfl (eb + 1) 93 i0 _ 6 80 Try.underlying88 hi hz0 hz1 hz2 rfl (by decide) v n xs (by simp [Act.eval]) (HOW.out.drew.alloc _) ⟨W.heap.size, 0, none⟩ 1 1 [.string sp, .string lo, .pointer p, .string pf, .string va, .int .i64 0] (by simp [Act.eval]) rfl (World.news_of_block (cs := #[.string sp, .string lo, .pointer p, .string pf, .string va, .int .i64 0]) (t := 93) (fr := (0, 0)) (heap_new _ _)) (by intro u hu; simp at hu; rcases hu with rfl | rfl | rfl | rfl | rfl | rfl <;> rfl) (by omega) (by unfold maxLen; omega) (by omega) (by simp; omega) (W.heap.size + 1) (by simp) ?_
      intro g cap w1 hown1 hgrow hat hlt1
      have q0 : w1.cell? ⟨eb, 2, none⟩ = some (.pointer (some ⟨bb, 0, none⟩)) := (hgrow.cell_far ⟨eb, 2, none⟩ (by simp; omega) HN1.out).trans (((below_new W _).cell (p := ⟨eb, 2, none⟩) leW).trans e2W)
      have q1 : w1.cell? ⟨bb, 0, none⟩ = some v := (hgrow.cell_far ⟨bb, 0, none⟩ (by simp; omega) HN2.out).trans (((below_new W _).cell (p := ⟨bb, 0, none⟩) lbW).trans b0W)
      have q2 : w1.frozen? ⟨bb, 0, none⟩ = false := (hgrow.frozen_far ⟨bb, 0, none⟩ (by simp; omega) HN2.out).trans (((below_new W _).frozen (p := ⟨bb, 0, none⟩) lbW).trans f0W)
      have HA := hide (fin_of hlt leW HBW.out HOW.out HN2.out _ hown1 hgrow)
      clear hown1 hgrow hat)
    all_goals
      go_end0
      exact ⟨rfl, p, W, hB1.out, HA.out⟩
  · have hB1 : Hid (Below (eb + 1) w w) := hide (Below.refl _ _)
    have e2W := e2
    have b0W := b0
    have f0W := f0
    have HBW := HB
    have HOW := HO
    have lbW := lb
    have leW := le
    clear HB HO lb le e2 b0 f0
    have hne1 : some eb ≠ v.ownBlock := fun h => by have := HOW.out.lt eb h.symm; omega
    have hne2 : some bb ≠ v.ownBlock := fun h => by
      rcases HOW.out.2 with ⟨rfl, _⟩ | ⟨g, cap, cur, rfl, _, hg, _⟩
      · cases h
      · simp [Value.ownBlock] at h
        subst h
        rw [HBW.out] at hg
        simp at hg
    have HN1 := hide hne1
    have HN2 := hide hne2
    clear hne1 hne2
    go_region_law (
      refine step_append_lies _ rfl (.tmp 36) (.tmp 44) 88 rfl (eb + 1) 93 i0 _ 6 80 Try.underlying88 hi hz0 hz1 hz2 rfl (by decide) v n xs (by simp [Act.eval]) (HOW.out.drew.alloc _) ⟨w.heap.size, 0, none⟩ 1 1 [.string sp, .string lo, .pointer none, .string pf, .string va, .int .i64 0] (by simp [Act.eval]) rfl (World.news_of_block (cs := #[.string sp, .string lo, .pointer none, .string pf, .string va, .int .i64 0]) (t := 93) (fr := (0, 0)) (heap_new _ _)) (by intro u hu; simp at hu; rcases hu with rfl | rfl | rfl | rfl | rfl | rfl <;> rfl) (by omega) (by unfold maxLen; omega) (by omega) (by simp; omega) (w.heap.size + 1) (by simp) ?_
      intro g cap w1 hown1 hgrow hat hlt1
      have q0 : w1.cell? ⟨eb, 2, none⟩ = some (.pointer (some ⟨bb, 0, none⟩)) := (hgrow.cell_far ⟨eb, 2, none⟩ (by simp; omega) HN1.out).trans (((below_new w _).cell (p := ⟨eb, 2, none⟩) leW).trans e2W)
      have q1 : w1.cell? ⟨bb, 0, none⟩ = some v := (hgrow.cell_far ⟨bb, 0, none⟩ (by simp; omega) HN2.out).trans (((below_new w _).cell (p := ⟨bb, 0, none⟩) lbW).trans b0W)
      have q2 : w1.frozen? ⟨bb, 0, none⟩ = false := (hgrow.frozen_far ⟨bb, 0, none⟩ (by simp; omega) HN2.out).trans (((below_new w _).frozen (p := ⟨bb, 0, none⟩) lbW).trans f0W)
      have HA := hide (fin_of hlt leW HBW.out HOW.out HN2.out _ hown1 hgrow)
      clear hown1 hgrow hat)
    all_goals
      go_end0
      exact ⟨rfl, none, w, hB1.out, HA.out⟩
end Go.Proofs.Qxb6614379a
