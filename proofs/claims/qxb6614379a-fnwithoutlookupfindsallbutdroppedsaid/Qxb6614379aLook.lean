import Derived.Test.Qxb6614379aAttrs
namespace Go.Proofs.Qxb6614379a
open Go.RowKit
set_option linter.unusedVariables false

/-- The row of attributes that an element holds: six cells each. -/
def Row (w : World) (ao : Option Addr) (n : Nat) (S L : Nat → ByteArray) (N : Nat → Option Addr) (P V : Nat → ByteArray) : Prop :=
  ∀ k, k < n → ∃ g, ao = some ⟨g, 0, none⟩ ∧ g < w.heap.size ∧ w.cell? ⟨g, k * 6, none⟩ = some (.string (S k)) ∧ w.cell? ⟨g, k * 6 + 1, none⟩ = some (.string (L k)) ∧ w.cell? ⟨g, k * 6 + 2, none⟩ = some (.pointer (N k)) ∧ w.cell? ⟨g, k * 6 + 3, none⟩ = some (.string (P k)) ∧ w.cell? ⟨g, k * 6 + 4, none⟩ = some (.string (V k)) ∧ w.cell? ⟨g, k * 6 + 5, none⟩ = some (.int .i64 0)

theorem Row.keep {w w' : World} {ao : Option Addr} {n B : Nat} {S L : Nat → ByteArray} {N : Nat → Option Addr} {P V : Nat → ByteArray} (h : Row w ao n S L N P V) (b : Below B w w') (hB : w.heap.size ≤ B) : Row w' ao n S L N P V := by
  intro k hk
  obtain ⟨g, rfl, hlt, h0, h1, h2, h3, h4, h5⟩ := h k hk
  have key : ∀ {j : Nat}, w'.cell? ⟨g, j, none⟩ = w.cell? ⟨g, j, none⟩ := fun {j} => b.cell (p := ⟨g, j, none⟩) (by show g < B; omega)
  exact ⟨g, rfl, Nat.lt_of_lt_of_le hlt b.size, key.trans h0, key.trans h1, key.trans h2, key.trans h3, key.trans h4, key.trans h5⟩

def start47 (w : World) (sp lo : ByteArray) : World := (w.alloc (.cells #[.string sp, .string lo] 45)).alloc (.cells #[.string ⟨#[]⟩, .string ⟨#[]⟩, .pointer none, .string ⟨#[]⟩, .string ⟨#[]⟩, .int .i64 0] 93)
theorem start47_size (w : World) (sp lo : ByteArray) : (start47 w sp lo).heap.size = w.heap.size + 2 := by simp [start47]
theorem start47_below (w : World) (sp lo : ByteArray) : Below w.heap.size w (start47 w sp lo) := ((Below.refl _ _).alloc (Nat.le_refl _) _).alloc (by simp) _
theorem start47_name (w : World) (sp lo : ByteArray) : (start47 w sp lo).cell? ⟨w.heap.size, 0, none⟩ = some (.string sp) ∧ (start47 w sp lo).cell? ⟨w.heap.size, 1, none⟩ = some (.string lo) := by
  constructor <;> (unfold start47; go_simp)
theorem start47_block (w : World) (sp lo : ByteArray) : (start47 w sp lo).heap[w.heap.size + 1]? = some (.cells #[.string ⟨#[]⟩, .string ⟨#[]⟩, .pointer none, .string ⟨#[]⟩, .string ⟨#[]⟩, .int .i64 0] 93) := by
  have h : w.heap.size + 1 = (w.alloc (.cells #[.string sp, .string lo] 45)).heap.size := by simp
  unfold start47
  rw [h]
  show ((w.alloc (.cells #[.string sp, .string lo] 45)).heap.push _)[(w.alloc (.cells #[.string sp, .string lo] 45)).heap.size]? = _
  rw [Array.getElem?_push_size]
set_option maxHeartbeats 1000000 in
theorem attrs44 (eb bb : Nat) (v : Value) (w : World) (ce : w.cell? ⟨eb, 2, none⟩ = some (.pointer (some ⟨bb, 0, none⟩))) (cb : w.cell? ⟨bb, 0, none⟩ = some v) :
    Calls Try.prog 44 #[.pointer (some ⟨eb, 0, none⟩)] w fun e w' => e = .returned v ∧ w = w' := by
  go_enter Try.func44, Try.ntmps44
  go_wp2
  go_ret
  exact ⟨by simp, rfl⟩

set_option maxHeartbeats 1000000 in
theorem attr_absent (eb bb : Nat) (ao : Option Addr) (n cap : Nat) (S L : Nat → ByteArray) (N : Nat → Option Addr) (P V : Nat → ByteArray) (sp lo : ByteArray) (w : World) (hn : n ≤ 1024)
    (ce : w.cell? ⟨eb, 2, none⟩ = some (.pointer (some ⟨bb, 0, none⟩))) (cb : w.cell? ⟨bb, 0, none⟩ = some (.slice ao n cap)) (hr : Row w ao n S L N P V)
    (hno : ∀ k, k < n → ((S k).toList == sp.toList && (L k).toList == lo.toList) = false) :
    Calls Try.prog 47 #[.pointer (some ⟨eb, 0, none⟩), .agg #[.string sp, .string lo]] w fun e w' => e = .returned (.tuple #[.agg #[.string ⟨#[]⟩, .string ⟨#[]⟩, .pointer none, .string ⟨#[]⟩, .string ⟨#[]⟩, .int .i64 0], .bool false]) ∧ Below w.heap.size w w' := by
  have HR := hide hr
  have HN := hide hno
  clear hr hno
  have le := lt_of_cell ce
  have lb := lt_of_cell cb
  have ce' : w.cell? ⟨eb, 2, none⟩ = some (.pointer (some ⟨bb, 0, none⟩)) := ce
  go_enter Try.func47, Try.ntmps47
  go_wp2_with fail
  refine (attrs44 eb bb (.slice ao n cap) _ ?_ ?_).mono ?_
  · go_simp
  · go_simp
  rintro e w1 ⟨rfl, rfl⟩
  go_wp2_with fail
  have hst : (w.alloc (.cells #[.string sp, .string lo] 45)).alloc (.cells #[.string ⟨#[]⟩, .string ⟨#[]⟩, .pointer none, .string ⟨#[]⟩, .string ⟨#[]⟩, .int .i64 0] 93) = start47 w sp lo := rfl
  rw [hst]
  have hsz := start47_size w sp lo
  have HR1 := hide (HR.out.keep (start47_below w sp lo) (Nat.le_refl _))
  have hsb := hide (start47_below w sp lo)
  have hnm := hide (start47_name w sp lo)
  have hbl := hide (start47_block w sp lo)
  clear hst HR ce cb ce' le lb
  generalize start47 w sp lo = W0 at *
  go_loopw [11] (fun i wr => ∃ (k : Nat), k ≤ n ∧ Hid (Below (w.heap.size + 2) W0 wr) ∧ i = .int .i64 (k : Int)) (fun i _ => n - (intOf i).toNat)
  case atStart => exact ⟨0, Nat.zero_le _, hide (Below.refl _ _), rfl⟩
  case round =>
    obtain ⟨k, hk, hB, rfl⟩ := hrel
    have hn0 : wr.cell? ⟨w.heap.size, 0, none⟩ = some (.string sp) := (hB.out.cell (p := ⟨w.heap.size, 0, none⟩) (by simp)).trans hnm.out.1
    have hn1 : wr.cell? ⟨w.heap.size, 1, none⟩ = some (.string lo) := (hB.out.cell (p := ⟨w.heap.size, 1, none⟩) (by simp)).trans hnm.out.2
    have hsz2 : w.heap.size + 2 ≤ wr.heap.size := by have := hB.out.size; omega
    have hl0 : w.heap.size < wr.heap.size := by omega
    have hl1 : w.heap.size + 1 < wr.heap.size := by omega
    by_cases hlt : k < n
    · obtain ⟨g, rfl, hg, h0, h1, h2, h3, h4, h5⟩ := HR1.out.keep hB.out (by omega) k hlt
      have hne := HN.out k hlt
      by_cases hS : (S k).toList = sp.toList
      · have hL : ¬ (L k).toList = lo.toList := by simpa [hS] using hne
        clear hne
        go_wp2_with fail
        exact ⟨⟨k + 1, by omega, hide (hB.out.alloc hsz2 _), by go_num⟩, by simp [intOf]; omega⟩
      · clear hne
        go_wp2_with fail
        exact ⟨⟨k + 1, by omega, hide (hB.out.alloc hsz2 _), by go_num⟩, by simp [intOf]; omega⟩
    · obtain rfl : k = n := by omega
      have hbk := (hB.out.block (w.heap.size + 1) (by omega)).trans hbl.out
      have c0 := cell_of_row wr (w.heap.size + 1) 0 _ _ _ hbk
      have c1 := cell_of_row wr (w.heap.size + 1) 1 _ _ _ hbk
      have c2 := cell_of_row wr (w.heap.size + 1) 2 _ _ _ hbk
      have c3 := cell_of_row wr (w.heap.size + 1) 3 _ _ _ hbk
      have c4 := cell_of_row wr (w.heap.size + 1) 4 _ _ _ hbk
      have c5 := cell_of_row wr (w.heap.size + 1) 5 _ _ _ hbk
      simp at c0 c1 c2 c3 c4 c5
      have f : ∀ j, wr.frozen? ⟨w.heap.size + 1, j, none⟩ = false := fun j => by simp [World.frozen?, hbk]
      have f0 := f 0
      have f1 := f 1
      have f2 := f 2
      have f3 := f 3
      have f4 := f 4
      have f5 := f 5
      clear hbk f
      go_wp2_with fail
      have hb' : Below w.heap.size w wr := hsb.out.trans (hB.out.mono (by omega))
      have le' : w.heap.size ≤ w.heap.size + 1 := by omega
      exact bodyPost_ret (v := .tuple #[.agg #[.string ⟨#[]⟩, .string ⟨#[]⟩, .pointer none, .string ⟨#[]⟩, .string ⟨#[]⟩, .int .i64 0], .bool false]) (by simp [results, Try.results47, go_sem, c0, c1, c2, c3, c4, c5]) rfl
        ⟨rfl, (((((hb'.setCell le' _).setCell le' _).setCell le' _).setCell le' _).setCell le' _).setCell le' _⟩
set_option maxHeartbeats 1000000 in
theorem attr_hit (eb bb : Nat) (ao : Option Addr) (n cap : Nat) (S L : Nat → ByteArray) (N : Nat → Option Addr) (P V : Nat → ByteArray) (sp lo : ByteArray) (w : World) (hn : n ≤ 1024)
    (ce : w.cell? ⟨eb, 2, none⟩ = some (.pointer (some ⟨bb, 0, none⟩))) (cb : w.cell? ⟨bb, 0, none⟩ = some (.slice ao n cap)) (hr : Row w ao n S L N P V)
    (k0 : Nat) (hk0 : k0 < n) (hS0 : (S k0).toList = sp.toList) (hL0 : (L k0).toList = lo.toList) (hno : ∀ k, k < k0 → ((S k).toList == sp.toList && (L k).toList == lo.toList) = false) :
    Calls Try.prog 47 #[.pointer (some ⟨eb, 0, none⟩), .agg #[.string sp, .string lo]] w fun e w' => e = .returned (.tuple #[.agg #[.string (S k0), .string (L k0), .pointer (N k0), .string (P k0), .string (V k0), .int .i64 0], .bool true]) ∧ Below w.heap.size w w' := by
  have HR := hide hr
  have HN := hide hno
  clear hr hno
  have le := lt_of_cell ce
  have lb := lt_of_cell cb
  have ce' : w.cell? ⟨eb, 2, none⟩ = some (.pointer (some ⟨bb, 0, none⟩)) := ce
  go_enter Try.func47, Try.ntmps47
  go_wp2_with fail
  refine (attrs44 eb bb (.slice ao n cap) _ ?_ ?_).mono ?_
  · go_simp
  · go_simp
  rintro e w1 ⟨rfl, rfl⟩
  go_wp2_with fail
  have hst : (w.alloc (.cells #[.string sp, .string lo] 45)).alloc (.cells #[.string ⟨#[]⟩, .string ⟨#[]⟩, .pointer none, .string ⟨#[]⟩, .string ⟨#[]⟩, .int .i64 0] 93) = start47 w sp lo := rfl
  rw [hst]
  have hsz := start47_size w sp lo
  have HR1 := hide (HR.out.keep (start47_below w sp lo) (Nat.le_refl _))
  have hsb := hide (start47_below w sp lo)
  have hnm := hide (start47_name w sp lo)
  have hbl := hide (start47_block w sp lo)
  clear hst HR ce cb ce' le lb
  generalize start47 w sp lo = W0 at *
  go_loopw [11] (fun i wr => ∃ (k : Nat), k ≤ k0 ∧ Hid (Below (w.heap.size + 2) W0 wr) ∧ i = .int .i64 (k : Int)) (fun i _ => n - (intOf i).toNat)
  case atStart => exact ⟨0, Nat.zero_le _, hide (Below.refl _ _), rfl⟩
  case round =>
    obtain ⟨k, hk, hB, rfl⟩ := hrel
    have hn0 : wr.cell? ⟨w.heap.size, 0, none⟩ = some (.string sp) := (hB.out.cell (p := ⟨w.heap.size, 0, none⟩) (by simp)).trans hnm.out.1
    have hn1 : wr.cell? ⟨w.heap.size, 1, none⟩ = some (.string lo) := (hB.out.cell (p := ⟨w.heap.size, 1, none⟩) (by simp)).trans hnm.out.2
    have hsz2 : w.heap.size + 2 ≤ wr.heap.size := by have := hB.out.size; omega
    have hl0 : w.heap.size < wr.heap.size := by omega
    have hl1 : w.heap.size + 1 < wr.heap.size := by omega
    have hkn : k < n := by omega
    by_cases hlt : k < k0
    · obtain ⟨g, rfl, hg, h0, h1, h2, h3, h4, h5⟩ := HR1.out.keep hB.out (by omega) k hkn
      have hne := HN.out k hlt
      by_cases hS : (S k).toList = sp.toList
      · have hL : ¬ (L k).toList = lo.toList := by simpa [hS] using hne
        clear hne
        go_wp2_with fail
        exact ⟨⟨k + 1, by omega, hide (hB.out.alloc hsz2 _), by go_num⟩, by simp [intOf]; omega⟩
      · clear hne
        go_wp2_with fail
        exact ⟨⟨k + 1, by omega, hide (hB.out.alloc hsz2 _), by go_num⟩, by simp [intOf]; omega⟩
    · obtain rfl : k = k0 := by omega
      obtain ⟨g, rfl, hg, h0, h1, h2, h3, h4, h5⟩ := HR1.out.keep hB.out (by omega) k hkn
      have hbk := (hB.out.block (w.heap.size + 1) (by omega)).trans hbl.out
      have c0 := cell_of_row wr (w.heap.size + 1) 0 _ _ _ hbk
      have c1 := cell_of_row wr (w.heap.size + 1) 1 _ _ _ hbk
      have c2 := cell_of_row wr (w.heap.size + 1) 2 _ _ _ hbk
      have c3 := cell_of_row wr (w.heap.size + 1) 3 _ _ _ hbk
      have c4 := cell_of_row wr (w.heap.size + 1) 4 _ _ _ hbk
      have c5 := cell_of_row wr (w.heap.size + 1) 5 _ _ _ hbk
      simp at c0 c1 c2 c3 c4 c5
      have f : ∀ j, wr.frozen? ⟨w.heap.size + 1, j, none⟩ = false := fun j => by simp [World.frozen?, hbk]
      have f0 := f 0
      have f1 := f 1
      have f2 := f 2
      have f3 := f 3
      have f4 := f 4
      have f5 := f 5
      clear hbk f
      go_wp2_with fail
      have hb' : Below w.heap.size w wr := hsb.out.trans (hB.out.mono (by omega))
      have le' : w.heap.size ≤ w.heap.size + 1 := by omega
      exact bodyPost_ret (v := .tuple #[.agg #[.string (S k), .string (L k), .pointer (N k), .string (P k), .string (V k), .int .i64 0], .bool true]) (by simp [results, Try.results47, go_sem, c0, c1, c2, c3, c4, c5, hl1]) rfl
        ⟨rfl, ((((((hb'.setCell le' _).setCell le' _).setCell le' _).setCell le' _).setCell le' _).setCell le' _).alloc (by simp; omega) _⟩
end Go.Proofs.Qxb6614379a
