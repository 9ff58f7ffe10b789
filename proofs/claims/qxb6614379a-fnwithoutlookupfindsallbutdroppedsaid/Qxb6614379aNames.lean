import Derived.Test.Qxb6614379aRows
import Derived.WalkKit
import Derived.WalkSpells
import Derived.WalkLawsBesides
import Derived.BigQuiet
import Derived.Deep.QuietTactic
import Derived.RegionTactic
namespace Go.Proofs.Qxb6614379a
open Go.RowKit
set_option linter.unusedVariables false

theorem hide {p : Prop} (h : p) : Hid p := h
theorem unhide {p : Prop} (h : Hid p) : p := h

set_option maxHeartbeats 1000000 in
theorem name39 (t nb la : Nat) (s u : ByteArray) (w : World) (hla : la ≤ s.size) (hs : s.size ≤ 65536) (lt : t < w.heap.size) (ln : nb < w.heap.size)
    (c0 : w.cell? ⟨t, 0, none⟩ = some (.string s)) (c1 : w.cell? ⟨t, 1, none⟩ = some (.int .i64 (la : Int))) (c2 : w.cell? ⟨t, 2, none⟩ = some (.pointer (some ⟨nb, 0, none⟩))) (cn : w.cell? ⟨nb, 0, none⟩ = some (.string u)) :
    Calls Try.prog 39 #[.pointer (some ⟨t, 0, none⟩)] w fun e w' => e = .returned (.agg #[.string u, .string (s.extract la s.size)]) ∧ Below w.heap.size w w' := by
  have h1 : (la : Int) ≤ (s.size : Int) := by omega
  have lt1 : t < w.heap.size + 1 := by omega
  have ln1 : nb < w.heap.size + 1 := by omega
  go_enter Try.func39, Try.ntmps39
  go_wp2
  go_region
  go_wp2
  exact bodyPost_ret (v := .agg #[.string u, .string (s.extract la s.size)]) (by simp [results, Try.results39, go_sem]) rfl ⟨rfl, ((Below.refl _ _).alloc (Nat.le_refl _) _).drew⟩

/-- An element in memory that has a name: the element at eb, its head at hb, its tag's name at t, its namespace at nb. -/
structure Elem (w : World) (eb hb t nb la : Nat) (s u : ByteArray) : Prop where
  e0 : w.cell? ⟨eb, 0, none⟩ = some (.pointer (some ⟨hb, 0, none⟩))
  h0 : w.cell? ⟨hb, 0, none⟩ = some (.pointer (some ⟨t, 0, none⟩))
  t0 : w.cell? ⟨t, 0, none⟩ = some (.string s)
  t1 : w.cell? ⟨t, 1, none⟩ = some (.int .i64 (la : Int))
  t2 : w.cell? ⟨t, 2, none⟩ = some (.pointer (some ⟨nb, 0, none⟩))
  n0 : w.cell? ⟨nb, 0, none⟩ = some (.string u)

theorem lt_of_cell {w : World} {b i : Nat} {v : Value} (h : w.cell? ⟨b, i, none⟩ = some v) : b < w.heap.size := World.block_lt_of_cell? w _ h
theorem Elem.keep {w w' : World} {eb hb t nb la : Nat} {s u : ByteArray} (h : Elem w eb hb t nb la s u) (b : Below w.heap.size w w') : Elem w' eb hb t nb la s u := by
  have k : ∀ {x i : Nat} {v : Value}, w.cell? ⟨x, i, none⟩ = some v → w'.cell? ⟨x, i, none⟩ = some v := fun {x i v} q => (b.cell (p := ⟨x, i, none⟩) (lt_of_cell q)).trans q
  exact ⟨k h.e0, k h.h0, k h.t0, k h.t1, k h.t2, k h.n0⟩

set_option maxHeartbeats 400000 in
theorem newElement_any (la : Nat) (s u : ByteArray) (w : World) :
    Calls Try.prog 21 #[.string s, .int .i64 (la : Int), .string u] w fun e w' => e = .returned (.pointer (some ⟨w.heap.size + 3, 0, none⟩)) ∧ Elem w' (w.heap.size + 3) (w.heap.size + 2) (w.heap.size + 1) w.heap.size la s u ∧ Below w.heap.size w w' := by
  go_enter Try.func21, Try.ntmps21
  go_wp2
  go_ret
  refine ⟨by simp, ⟨?_, ?_, ?_, ?_, ?_, ?_⟩, ((((Below.refl _ _).alloc (Nat.le_refl _) _).alloc (by simp) _).alloc (by simp; omega) _).alloc (by simp; omega) _⟩
  all_goals go_simp

set_option maxHeartbeats 400000 in
theorem newAssertion_any (p : Option Addr) (w : World) :
    Calls Try.prog 22 #[.pointer p] w fun e w' => e = .returned (.pointer (some ⟨w.heap.size, 0, none⟩)) ∧ w'.cell? ⟨w.heap.size, 0, none⟩ = some (.pointer p) ∧ Below w.heap.size w w' := by
  go_enter Try.func22, Try.ntmps22
  go_wp2
  go_ret
  refine ⟨by simp, ?_, (Below.refl _ _).alloc (Nat.le_refl _) _⟩
  go_simp

set_option maxHeartbeats 1000000 in
theorem name_any (ab eb hb t nb la : Nat) (s u : ByteArray) (w : World) (hla : la ≤ s.size) (hs : s.size ≤ 65536) (ca : w.cell? ⟨ab, 0, none⟩ = some (.pointer (some ⟨eb, 0, none⟩))) (he : Elem w eb hb t nb la s u) :
    Calls Try.prog 23 #[.pointer (some ⟨ab, 0, none⟩)] w fun e w' => e = .returned (.agg #[.string u, .string (s.extract la s.size)]) ∧ Below w.heap.size w w' := by
  have la0 := lt_of_cell ca
  have le0 := lt_of_cell he.e0
  have lh0 := lt_of_cell he.h0
  have e0 := he.e0
  have h0 := he.h0
  have HE := hide he
  clear he
  go_enter Try.func23, Try.ntmps23
  go_wp2_with fail
  have hb0 : Below w.heap.size w (w.alloc (.cells #[.string ⟨#[]⟩, .string ⟨#[]⟩] 45)) := (Below.refl _ _).alloc (Nat.le_refl _) _
  have he1 := HE.out.keep hb0
  refine (name39 t nb la s u _ hla hs (lt_of_cell he1.t0) (lt_of_cell he1.n0) he1.t0 he1.t1 he1.t2 he1.n0).mono ?_
  rintro e w1 ⟨rfl, hb1⟩
  have q0 : w1.cell? ⟨w.heap.size, 0, none⟩ = some (.string ⟨#[]⟩) := by rw [hb1.cell (p := ⟨w.heap.size, 0, none⟩) (by simp), World.cell?_alloc_at _ _ _ _ rfl]; rfl
  have q1 : w1.cell? ⟨w.heap.size, 1, none⟩ = some (.string ⟨#[]⟩) := by rw [hb1.cell (p := ⟨w.heap.size, 1, none⟩) (by simp), World.cell?_alloc_at _ _ _ _ rfl]; rfl
  have f0 : w1.frozen? ⟨w.heap.size, 0, none⟩ = false := by rw [hb1.frozen (p := ⟨w.heap.size, 0, none⟩) (by simp), World.frozen?_alloc_at _ _ _ _ rfl]
  have f1 : w1.frozen? ⟨w.heap.size, 1, none⟩ = false := by rw [hb1.frozen (p := ⟨w.heap.size, 1, none⟩) (by simp), World.frozen?_alloc_at _ _ _ _ rfl]
  have hb2 : Below w.heap.size w w1 := hb0.trans (hb1.mono (by simp))
  clear hb0 he1 hb1 HE
  go_wp2
  exact bodyPost_ret (v := .agg #[.string u, .string (s.extract la s.size)]) (by simp [results, Try.results23, go_sem, q0, q1]) rfl ⟨rfl, (hb2.setCell (Nat.le_refl _) _).setCell (Nat.le_refl _) _⟩

set_option maxHeartbeats 1000000 in
theorem name_nil (ab : Nat) (w : World) (ca : w.cell? ⟨ab, 0, none⟩ = some (.pointer none)) :
    Calls Try.prog 23 #[.pointer (some ⟨ab, 0, none⟩)] w fun e w' => e = .returned (.agg #[.string ⟨#[]⟩, .string ⟨#[]⟩]) ∧ Below w.heap.size w w' := by
  have la0 := lt_of_cell ca
  go_enter Try.func23, Try.ntmps23
  go_wp2
  exact bodyPost_ret (v := .agg #[.string ⟨#[]⟩, .string ⟨#[]⟩]) (by simp [results, Try.results23, go_sem]) rfl ⟨rfl, ((Below.refl _ _).alloc (Nat.le_refl _) _)⟩
end Go.Proofs.Qxb6614379a
