import Derived.Test.Qxb6614379aFirst
import Derived.Deep.RegionHeld3
namespace Go.Proofs.Qxb6614379a
open Go.RowKit
set_option linter.unusedVariables false

/-- An element that is being built: n attributes have been appended. -/
structure Bld (w : World) (eb hb t : Nat) (s : ByteArray) (n : Nat) (S L P V : Nat → ByteArray) : Prop where
  e0 : w.cell? ⟨eb, 0, none⟩ = some (.pointer (some ⟨hb, 0, none⟩))
  e1 : w.cell? ⟨eb, 1, none⟩ = some (.int .i64 0)
  h0 : w.cell? ⟨hb, 0, none⟩ = some (.pointer (some ⟨t, 0, none⟩))
  t0 : w.cell? ⟨t, 0, none⟩ = some (.string s)
  hlt : hb < eb
  tlt : t < eb
  body : (n = 0 ∧ w.cell? ⟨eb, 2, none⟩ = some (.pointer none) ∧ w.frozen? ⟨eb, 2, none⟩ = false) ∨
    ∃ (bb : Nat) (v : Value) (N : Nat → Option Addr), eb < bb ∧ w.cell? ⟨eb, 2, none⟩ = some (.pointer (some ⟨bb, 0, none⟩)) ∧ w.heap[bb]? = some (.cells #[v, .slice none 0 0] 98 (0, 0)) ∧ w.ownsRow (eb + 1) 93 6 v n (cells S L N P V n)

theorem Bld.drew {w : World} {eb hb t : Nat} {s : ByteArray} {n : Nat} {S L P V : Nat → ByteArray} (h : Bld w eb hb t s n S L P V) : Bld w.drew eb hb t s n S L P V :=
  ⟨by simpa using h.e0, by simpa using h.e1, by simpa using h.h0, by simpa using h.t0, h.hlt, h.tlt, by
    rcases h.body with ⟨a, b, c⟩ | ⟨bb, v, N, a, b, c, d⟩
    · exact .inl ⟨a, by simpa using b, by simpa using c⟩
    · exact .inr ⟨bb, v, N, a, by simpa using b, c, d⟩⟩

theorem cells_more (S L : Nat → ByteArray) (N : Nat → Option Addr) (P V : Nat → ByteArray) (n : Nat) (p : Option Addr) :
    cells S L N P V n ++ [.string (S n), .string (L n), .pointer p, .string (P n), .string (V n), .int .i64 0] = cells S L (fun k => if k = n then p else N k) P V (n + 1) := by
  rw [cells_succ, cells_congr S L N (fun k => if k = n then p else N k) P V n (fun k hk => by simp; omega)]
  simp [six]

theorem append_bld {eb hb t : Nat} {s : ByteArray} {n : Nat} {S L P V : Nat → ByteArray} (w : World) (hn : n ≤ 1024) (h : Bld w eb hb t s n S L P V) :
    Calls Try.prog 42 #[.pointer (some ⟨eb, 0, none⟩), .string (S n), .string (L n), .string (P n), .string (V n)] w fun e w' => e = .returned (.tuple #[]) ∧ Bld w' eb hb t s (n + 1) S L P V ∧ Below eb w w' := by
  rcases h.body with ⟨rfl, e2, fz⟩ | ⟨bb, v, N, hlt, e2, hbk, hown⟩
  · refine (append_first eb (S 0) (L 0) (P 0) (V 0) w e2 fz).mono ?_
    rintro e w' ⟨rfl, p, W, bb, hlt, e2W, e0W, leW, hBW, v', hbk, hown, hBW'⟩
    have hB : Below eb w w' := hBW.trans (hBW'.mono (by omega))
    refine ⟨rfl, ⟨?_, ?_, ?_, ?_, h.hlt, h.tlt, .inr ⟨bb, v', fun _ => p, hlt, ?_, hbk, ?_⟩⟩, hB⟩
    · rw [hBW'.cell (p := ⟨eb, 0, none⟩) (by simp), e0W 0 (by omega)]; exact h.e0
    · rw [hBW'.cell (p := ⟨eb, 1, none⟩) (by simp), e0W 1 (by omega)]; exact h.e1
    · rw [hB.cell (p := ⟨hb, 0, none⟩) h.hlt]; exact h.h0
    · rw [hB.cell (p := ⟨t, 0, none⟩) h.tlt]; exact h.t0
    · rw [hBW'.cell (p := ⟨eb, 2, none⟩) (by simp)]; exact e2W
    · simpa [cells, six] using hown
  · refine (append_next eb bb n (S n) (L n) (P n) (V n) v _ w hn hlt e2 hbk hown).mono ?_
    rintro e w' ⟨rfl, p, W, hBW, v', hbk', hown', hBW'⟩
    have hB : Below (eb + 1) w w' := hBW.trans hBW'
    refine ⟨rfl, ⟨?_, ?_, ?_, ?_, h.hlt, h.tlt, .inr ⟨bb, v', fun k => if k = n then p else N k, hlt, ?_, hbk', ?_⟩⟩, hB.mono (by omega)⟩
    · rw [hB.cell (p := ⟨eb, 0, none⟩) (by simp)]; exact h.e0
    · rw [hB.cell (p := ⟨eb, 1, none⟩) (by simp)]; exact h.e1
    · rw [hB.cell (p := ⟨hb, 0, none⟩) (by have := h.hlt; show hb < eb + 1; omega)]; exact h.h0
    · rw [hB.cell (p := ⟨t, 0, none⟩) (by have := h.tlt; show t < eb + 1; omega)]; exact h.t0
    · rw [hB.cell (p := ⟨eb, 2, none⟩) (by simp)]; exact e2
    · rw [← cells_more]; exact hown'

set_option maxHeartbeats 400000 in
theorem newElement_bld (la : Nat) (s u : ByteArray) (S L P V : Nat → ByteArray) (w : World) :
    Calls Try.prog 21 #[.string s, .int .i64 (la : Int), .string u] w fun e w' => e = .returned (.pointer (some ⟨w.heap.size + 3, 0, none⟩)) ∧ Bld w' (w.heap.size + 3) (w.heap.size + 2) (w.heap.size + 1) s 0 S L P V ∧ Below w.heap.size w w' := by
  go_enter Try.func21, Try.ntmps21
  go_wp2
  go_ret
  refine ⟨by simp, ⟨?_, ?_, ?_, ?_, by omega, by omega, .inl ⟨rfl, ?_, ?_⟩⟩, ((((Below.refl _ _).alloc (Nat.le_refl _) _).alloc (by simp) _).alloc (by simp; omega) _).alloc (by simp; omega) _⟩
  all_goals go_simp

set_option maxRecDepth 20000 in
set_option maxHeartbeats 1000000 in
theorem build_any (s u : ByteArray) (la : Nat) (ao : Option Addr) (n cap : Nat) (S L P V : Nat → ByteArray) (w : World) (hn : n ≤ 1024) (ha : Ats w ao n S L P V) :
    Calls Try.prog 30 #[.string s, .int .i64 (la : Int), .string u, .slice ao n cap] w fun e w' => e = .returned (.pointer (some ⟨w.heap.size + 3, 0, none⟩)) ∧ Bld w' (w.heap.size + 3) (w.heap.size + 2) (w.heap.size + 1) s n S L P V ∧ Below w.heap.size w w' := by
  have HA := hide ha
  clear ha
  go_enter Try.func30, Try.ntmps30
  go_wp2_with fail
  refine (newElement_bld la s u S L P V w).mono ?_
  rintro e w1 ⟨rfl, hb1, hB1⟩
  have HB := hide hb1
  have HB1 := hide hB1
  clear hb1 hB1
  go_wp2_with fail
  go_loopw [10] (fun i wr => ∃ (k : Nat), k ≤ n ∧ Hid (Bld wr (w.heap.size + 3) (w.heap.size + 2) (w.heap.size + 1) s k S L P V) ∧ Hid (Below w.heap.size w wr) ∧ i = .int .i64 (k : Int)) (fun i _ => n - (intOf i).toNat)
  case atStart => exact ⟨0, Nat.zero_le _, HB, HB1, rfl⟩
  case round =>
    clear HB HB1
    obtain ⟨k, hk, hbl, hB, rfl⟩ := hrel
    by_cases hlt : k < n
    · have HK := hide (HA.out.keep hB.out (Nat.le_refl _))
      obtain ⟨a, rfl, hab, ⟨h0, h1, h2, h3⟩, _⟩ := HK.out k hlt
      have hk' : k ≤ 1024 := by omega
      go_wp2_with fail
      go_region_held3 (fun w' => w'.cell? (a.add (k * 4)) = some (.string (S k)) ∧ w'.cell? ⟨(a.add (k * 4)).block, (a.add (k * 4)).off + 1, none⟩ = some (.string (L k)) ∧ w'.cell? ⟨(a.add (k * 4)).block, (a.add (k * 4)).off + 2, none⟩ = some (.string (P k)) ∧ w'.cell? ⟨(a.add (k * 4)).block, (a.add (k * 4)).off + 3, none⟩ = some (.string (V k))) (go_keep)
        (first
          | (go_at_call 42
             refine (append_bld wr.drew hk' hbl.out.drew).mono ?_
             rintro e w2 ⟨rfl, hbl2, hB2⟩
             have hB3 : Below w.heap.size w w2 := hB.out.drew.trans (hB2.mono (by omega))
             obtain ⟨a', ha', _, ⟨g0, g1, g2, g3⟩, _⟩ := HA.out.keep hB3 (Nat.le_refl _) k hlt
             obtain rfl : a = a' := by simpa using ha'
             have HF := hide (And.intro hbl2 hB3)
             clear hbl2 hB2 hB3 ha'))
      go_wp2_with fail
      exact ⟨⟨k + 1, by omega, hide HF.out.1, hide HF.out.2, by go_num⟩, by simp [intOf]; omega⟩
    · obtain rfl : k = n := by omega
      go_wp2_with fail
      go_ret
      exact ⟨by simp, hbl.out, hB.out⟩
end Go.Proofs.Qxb6614379a
