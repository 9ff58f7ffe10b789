import Derived.Test.Qxb6614379aScan
import Derived.Deep.RegionWith
namespace Go.Proofs.Qxb6614379a
open Go.RowKit
set_option linter.unusedVariables false

theorem list_rebuild {α : Type} (l : List α) (p : Nat) (c : α) (h : l[p]? = some c) : l.take p ++ [c] ++ l.drop (p + 1) = l := by
  obtain ⟨hp, e⟩ := List.getElem?_eq_some_iff.1 h
  have h1 : l.take p ++ [c] = l.take (p + 1) := by rw [List.take_succ_eq_append_getElem hp, e]
  rw [h1, List.take_append_drop]

theorem rebuild (s : ByteArray) (p : Nat) (hp : p < s.size) (hc : colAt s p = true) : s.extract 0 p ++ ⟨#[58]⟩ ++ s.extract (p + 1) s.size = s := by
  rw [colAt, dif_pos hp] at hc
  have hc' : s[p] = 58 := by simpa using hc
  have hsp : s.data.toList[p]? = some 58 := by
    have h2 : s.data[p]'hp = 58 := hc'
    rw [Array.getElem?_toList, Array.getElem?_eq_getElem (by exact hp), h2]
  apply ByteArray.ext
  apply Array.ext'
  have h := list_rebuild s.data.toList p 58 hsp
  have e1 : (s.extract 0 p).data.toList = s.data.toList.take p := by
    rw [ByteArray.data_extract, Array.toList_extract]; simp
  have e2 : (s.extract (p + 1) s.size).data.toList = s.data.toList.drop (p + 1) := by
    rw [ByteArray.data_extract, Array.toList_extract, List.extract_eq_take_drop]
    apply List.take_of_length_le
    have hsz : s.data.size = s.size := rfl
    simp [hsz]
  rw [ByteArray.data_append, ByteArray.data_append, Array.toList_append, Array.toList_append, e1, e2]
  exact h

set_option maxHeartbeats 400000 in
theorem pfx_zero (t : Nat) (w : World) (c1 : w.cell? ⟨t, 1, none⟩ = some (.int .i64 0)) :
    Calls Try.prog 41 #[.pointer (some ⟨t, 0, none⟩)] w fun e w' => e = .returned (.string ⟨#[]⟩) ∧ Below w.heap.size w w' := by
  go_enter Try.func41, Try.ntmps41
  go_wp2
  go_ret
  exact ⟨by simp, Below.refl _ _⟩

set_option maxHeartbeats 400000 in
theorem pfx_some (t p : Nat) (s : ByteArray) (w : World) (hp : p < s.size) (hs : s.size ≤ 65536) (c0 : w.cell? ⟨t, 0, none⟩ = some (.string s)) (c1 : w.cell? ⟨t, 1, none⟩ = some (.int .i64 ((p : Int) + 1))) :
    Calls Try.prog 41 #[.pointer (some ⟨t, 0, none⟩)] w fun e w' => e = .returned (.string (s.extract 0 p)) ∧ Below w.heap.size w w' := by
  have hn : ((p : Int) + 1 == 0) = false := beq_eq_false_iff_ne.2 (by omega)
  have h1 : (p : Int) ≤ (s.size : Int) := by omega
  go_enter Try.func41, Try.ntmps41
  go_wp2
  go_quiet (fail)
  go_wp2
  go_ret
  exact ⟨by simp, below_drewN (Below.refl _ _) _⟩

set_option maxHeartbeats 400000 in
theorem qname_empty (b : ByteArray) (w : World) :
    Calls Try.prog 24 #[.string ⟨#[]⟩, .string b] w fun e w' => e = .returned (.string b) ∧ Below w.heap.size w w' := by
  go_enter Try.func24, Try.ntmps24
  go_wp2
  go_ret
  exact ⟨by simp, (Below.refl _ _).alloc (Nat.le_refl _) _⟩

set_option maxHeartbeats 400000 in
theorem qname_full (a b : ByteArray) (w : World) (ha : a.size ≤ 65536) (hb : b.size ≤ 65536) (hne : a.toList.isEmpty = false) :
    Calls Try.prog 24 #[.string a, .string b] w fun e w' => e = .returned (.string (a ++ ⟨#[58]⟩ ++ b)) ∧ Below w.heap.size w w' := by
  go_enter Try.func24, Try.ntmps24
  go_wp2
  go_ret
  exact ⟨by simp, (Below.refl _ _).alloc (Nat.le_refl _) _⟩
end Go.Proofs.Qxb6614379a
