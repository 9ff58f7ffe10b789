import Derived.Test.Qxb6614379aLook
namespace Go.Proofs.Qxb6614379a
open Go.RowKit
set_option linter.unusedVariables false

/-- An element in memory that holds a row of attributes: the element at eb, its body at bb. -/
structure Held (w : World) (eb bb hb t : Nat) (s : ByteArray) (ao : Option Addr) (n cap : Nat) (S L : Nat → ByteArray) (N : Nat → Option Addr) (P V : Nat → ByteArray) : Prop where
  e0 : w.cell? ⟨eb, 0, none⟩ = some (.pointer (some ⟨hb, 0, none⟩))
  e2 : w.cell? ⟨eb, 2, none⟩ = some (.pointer (some ⟨bb, 0, none⟩))
  b0 : w.cell? ⟨bb, 0, none⟩ = some (.slice ao n cap)
  h0 : w.cell? ⟨hb, 0, none⟩ = some (.pointer (some ⟨t, 0, none⟩))
  t0 : w.cell? ⟨t, 0, none⟩ = some (.string s)
  row : Row w ao n S L N P V

theorem Held.keep {w w' : World} {eb bb hb t : Nat} {s : ByteArray} {ao : Option Addr} {n cap : Nat} {S L : Nat → ByteArray} {N : Nat → Option Addr} {P V : Nat → ByteArray} (h : Held w eb bb hb t s ao n cap S L N P V) (b : Below w.heap.size w w') : Held w' eb bb hb t s ao n cap S L N P V := by
  have k : ∀ {x i : Nat} {v : Value}, w.cell? ⟨x, i, none⟩ = some v → w'.cell? ⟨x, i, none⟩ = some v := fun {x i v} q => (b.cell (p := ⟨x, i, none⟩) (lt_of_cell q)).trans q
  exact ⟨k h.e0, k h.e2, k h.b0, k h.h0, k h.t0, h.row.keep b (Nat.le_refl _)⟩

set_option maxHeartbeats 400000 in
theorem count32 {eb bb hb t : Nat} {s : ByteArray} {ao : Option Addr} {n cap : Nat} {S L : Nat → ByteArray} {N : Nat → Option Addr} {P V : Nat → ByteArray} (w : World) (h : Held w eb bb hb t s ao n cap S L N P V) :
    Calls Try.prog 32 #[.pointer (some ⟨eb, 0, none⟩)] w fun e w' => e = .returned (.int .i64 (n : Int)) ∧ w = w' := by
  have H := hide h
  clear h
  go_enter Try.func32, Try.ntmps32
  go_wp2_with fail
  refine (attrs44 eb bb (.slice ao n cap) _ H.out.e2 H.out.b0).mono ?_
  rintro e w1 ⟨rfl, rfl⟩
  go_wp2_with fail
  go_ret
  exact ⟨by simp, rfl⟩

set_option maxHeartbeats 400000 in
theorem qname46 {eb bb hb t : Nat} {s : ByteArray} {ao : Option Addr} {n cap : Nat} {S L : Nat → ByteArray} {N : Nat → Option Addr} {P V : Nat → ByteArray} (w : World) (h : Held w eb bb hb t s ao n cap S L N P V) :
    Calls Try.prog 46 #[.pointer (some ⟨eb, 0, none⟩)] w fun e w' => e = .returned (.string s) ∧ w = w' := by
  have e0 := h.e0
  have h0 := h.h0
  have t0 := h.t0
  clear h
  go_enter Try.func46, Try.ntmps46
  go_wp2
  go_ret
  exact ⟨by simp, rfl⟩

set_option maxHeartbeats 400000 in
theorem qname34 {eb bb hb t : Nat} {s : ByteArray} {ao : Option Addr} {n cap : Nat} {S L : Nat → ByteArray} {N : Nat → Option Addr} {P V : Nat → ByteArray} (w : World) (h : Held w eb bb hb t s ao n cap S L N P V) :
    Calls Try.prog 34 #[.pointer (some ⟨eb, 0, none⟩)] w fun e w' => e = .returned (.string s) ∧ w = w' := by
  have H := hide h
  clear h
  go_enter Try.func34, Try.ntmps34
  go_wp2_with fail
  refine (qname46 _ H.out).mono ?_
  rintro e w1 ⟨rfl, rfl⟩
  go_wp2_with fail
  go_ret
  exact ⟨by simp, rfl⟩

set_option maxHeartbeats 400000 in
theorem find_absent {eb bb hb t : Nat} {s : ByteArray} {ao : Option Addr} {n cap : Nat} {S L : Nat → ByteArray} {N : Nat → Option Addr} {P V : Nat → ByteArray} (sp lo : ByteArray) (w : World) (hn : n ≤ 1024) (h : Held w eb bb hb t s ao n cap S L N P V)
    (hno : ∀ k, k < n → ((S k).toList == sp.toList && (L k).toList == lo.toList) = false) :
    Calls Try.prog 37 #[.pointer (some ⟨eb, 0, none⟩), .string sp, .string lo] w fun e w' => (∃ v, e = .returned (.tuple #[.string v, .bool false])) ∧ Below w.heap.size w w' := by
  have H := hide h
  have HN := hide hno
  clear h hno
  go_enter Try.func37, Try.ntmps37
  go_wp2_with fail
  refine (attr_absent eb bb ao n cap S L N P V sp lo w hn H.out.e2 H.out.b0 H.out.row HN.out).mono ?_
  rintro e w1 ⟨rfl, hb⟩
  have hsz := hb.size
  go_wp2_with fail
  exact bodyPost_ret (v := .tuple #[.string ⟨#[]⟩, .bool false]) (by simp [results, Try.results37, go_sem]) rfl ⟨⟨_, rfl⟩, hb.alloc hsz _⟩

set_option maxHeartbeats 400000 in
theorem find_hit {eb bb hb t : Nat} {s : ByteArray} {ao : Option Addr} {n cap : Nat} {S L : Nat → ByteArray} {N : Nat → Option Addr} {P V : Nat → ByteArray} (w : World) (hn : n ≤ 1024) (h : Held w eb bb hb t s ao n cap S L N P V)
    (sp lo : ByteArray) (k0 : Nat) (hk0 : k0 < n) (hS0 : (S k0).toList = sp.toList) (hL0 : (L k0).toList = lo.toList) (hno : ∀ k, k < k0 → ((S k).toList == sp.toList && (L k).toList == lo.toList) = false) :
    Calls Try.prog 37 #[.pointer (some ⟨eb, 0, none⟩), .string sp, .string lo] w fun e w' => e = .returned (.tuple #[.string (V k0), .bool true]) ∧ Below w.heap.size w w' := by
  have H := hide h
  have HN := hide hno
  clear h hno
  go_enter Try.func37, Try.ntmps37
  go_wp2_with fail
  refine (attr_hit eb bb ao n cap S L N P V sp lo w hn H.out.e2 H.out.b0 H.out.row k0 hk0 hS0 hL0 HN.out).mono ?_
  rintro e w1 ⟨rfl, hb⟩
  have hsz := hb.size
  go_wp2_with fail
  exact bodyPost_ret (v := .tuple #[.string (V k0), .bool true]) (by simp [results, Try.results37, go_sem]) rfl ⟨rfl, hb.alloc hsz _⟩
end Go.Proofs.Qxb6614379a
