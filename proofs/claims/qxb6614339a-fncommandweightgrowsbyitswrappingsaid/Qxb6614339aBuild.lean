import Derived.Test.Qxb6614339aCommand
import Derived.Deep.AppendLies
namespace Go.Proofs.Qxb6614339a
open Go.RowKit
set_option linter.unusedVariables false

/-- A command 's args..' in memory: its node at m, its list of arguments at g (room for cap), the node of s at ib. -/
structure CmdAt (w : World) (m g ib : Nat) (s : ByteArray) (args : List Value) (cap : Nat) : Prop where
  id : w.heap[ib]? = some (.cells #[.int .i64 9, .int .i64 0, .pointer none, .string s] 53 (0, 0))
  node : w.heap[m]? = some (.cells #[.int .i64 4, .int .i64 0, .pointer none, .slice (some ⟨g, 0, none⟩) (args.length + 1) cap] 44 (0, 0))
  row : ∃ cur, w.heap[g]? = some (.cells cur 48 (0, 0)) ∧ args.length + 1 ≤ cap ∧ cap ≤ maxLen ∧ cur.size = cap ∧ cur.toList.take (args.length + 1) = .iface 51 (.pointer (some ⟨ib, 0, none⟩)) :: args

theorem lt_of_heap {w : World} {b : Nat} {o : Obj} (h : w.heap[b]? = some o) : b < w.heap.size := (Array.getElem?_eq_some_iff.1 h).1
theorem cell_of_heap {w : World} {b i : Nat} {cs : Array Value} {t : TypeId} (h : w.heap[b]? = some (.cells cs t (0, 0))) : w.cell? ⟨b, i, none⟩ = cs[i]? := by simp [World.cell?, h]
theorem free_of_heap {w : World} {b i : Nat} {cs : Array Value} {t : TypeId} (h : w.heap[b]? = some (.cells cs t (0, 0))) : w.frozen? ⟨b, i, none⟩ = false := by simp [World.frozen?, h]

theorem CmdAt.mg {w : World} {m g ib : Nat} {s : ByteArray} {args : List Value} {cap : Nat} (h : CmdAt w m g ib s args cap) : m ≠ g ∧ ib ≠ m ∧ ib ≠ g := by
  obtain ⟨h1, h2, cur, h3, _⟩ := h
  refine ⟨?_, ?_, ?_⟩
  · rintro rfl; rw [h2] at h3; cases h3
  · rintro rfl; rw [h1] at h2; cases h2
  · rintro rfl; rw [h1] at h3; cases h3
theorem CmdAt.same {w w' : World} {m g ib : Nat} {s : ByteArray} {args : List Value} {cap : Nat} (h : CmdAt w m g ib s args cap) (e1 : w'.heap[ib]? = w.heap[ib]?) (e2 : w'.heap[m]? = w.heap[m]?) (e3 : w'.heap[g]? = w.heap[g]?) : CmdAt w' m g ib s args cap := by
  obtain ⟨h1, h2, cur, h3, h4⟩ := h
  exact ⟨e1.trans h1, e2.trans h2, cur, e3.trans h3, h4⟩

/-- The weight of such a command, out of its arguments' weights. -/
theorem CmdAt.gives {w : World} {m g ib : Nat} {s : ByteArray} {args : List Value} {cap : Nat} (h : CmdAt w m g ib s args cap) (ks : Nat → Int) (hn : args.length ≤ 1000000)
    (hg : ∀ i, i < args.length → Gives 18 (args.getD i .nilIface) w (ks i)) (hk : ∀ i, i < args.length → -1 ≤ ks i ∧ ks i ≤ 900000) :
    Gives 16 (.pointer (some ⟨m, 0, none⟩)) w (best (baseOf s) ks args.length) := by
  obtain ⟨h1, h2, cur, h3, h4, h5, h6, h7⟩ := h
  have hget : ∀ i, i < args.length + 1 → cur[i]? = (.iface 51 (.pointer (some ⟨ib, 0, none⟩)) :: args)[i]? := by
    intro i hi
    rw [← h7, List.getElem?_take_of_lt hi]
    simp
  refine cmd_ident m g ib cap args.length s (fun i => args.getD i .nilIface) ks w hn h4 h5 ?_ ?_ ?_ ?_ hg hk
  · rw [cell_of_heap h2]; rfl
  · rw [cell_of_heap h3, hget 0 (by omega)]; rfl
  · rw [cell_of_heap h1]; rfl
  · intro i hi
    rw [cell_of_heap h3, hget (i + 1) (by omega)]
    simp [hi]

/-- w' is w with new blocks and with writes to the blocks m and g alone. -/
structure Two (m g : Nat) (w w' : World) : Prop where
  os : w'.os = w.os
  tape : w'.tape = w.tape
  output : w'.output = w.output
  size : w.heap.size ≤ w'.heap.size
  block : ∀ b, b < w.heap.size → b ≠ m → b ≠ g → w'.heap[b]? = w.heap[b]?

theorem Two.below {m g B : Nat} {w w' : World} (h : Two m g w w') (hm : B ≤ m) (hg : B ≤ g) (hB : B ≤ w.heap.size) : Below B w w' :=
  ⟨h.os, h.tape, h.output, h.size, fun k hk => h.block k (by omega) (by omega) (by omega)⟩

theorem heap_alloc (w : World) (o : Obj) (k : Nat) : (w.alloc o).heap[k]? = if k = w.heap.size then some o else w.heap[k]? := by
  show (w.heap.push o)[k]? = _
  rw [Array.getElem?_push]
theorem heap3 (w : World) (a b c : Obj) : (((w.alloc a).alloc b).alloc c).heap[w.heap.size]? = some a ∧ (((w.alloc a).alloc b).alloc c).heap[w.heap.size + 1]? = some b ∧ (((w.alloc a).alloc b).alloc c).heap[w.heap.size + 2]? = some c := by
  show (((w.heap.push a).push b).push c)[w.heap.size]? = some a ∧ (((w.heap.push a).push b).push c)[w.heap.size + 1]? = some b ∧ (((w.heap.push a).push b).push c)[w.heap.size + 2]? = some c
  refine ⟨?_, ?_, ?_⟩
  · rw [Array.getElem?_push, if_neg (by simp; omega), Array.getElem?_push, if_neg (by simp), Array.getElem?_push, if_pos rfl]
  · rw [Array.getElem?_push, if_neg (by simp), Array.getElem?_push, if_pos (by simp)]
  · rw [Array.getElem?_push, if_pos (by simp)]
theorem below3 (w : World) (a b c : Obj) : Below w.heap.size w (((w.alloc a).alloc b).alloc c) := ((((Below.refl _ _).alloc (Nat.le_refl _) _).alloc (by simp) _).alloc (by simp; omega) _)

set_option maxHeartbeats 400000 in
theorem ident_any (s : ByteArray) (w : World) :
    Calls Try.prog 12 #[.string s] w fun e w' => e = .returned (.pointer (some ⟨w.heap.size + 2, 0, none⟩)) ∧ CmdAt w' (w.heap.size + 2) (w.heap.size + 1) w.heap.size s [] 1 ∧ Below w.heap.size w w' ∧ w'.heap.size = w.heap.size + 3 := by
  go_enter Try.func12, Try.ntmps12
  go_wp2
  go_ret
  refine ⟨rfl, ⟨?_, ?_, ?_⟩, below3 _ _ _ _, by simp⟩
  · exact (heap3 _ _ _ _).1
  · exact (heap3 _ _ _ _).2.2
  · exact ⟨#[.iface 51 (.pointer (some ⟨w.heap.size, 0, none⟩))], (heap3 _ _ _ _).2.1, by simp, by unfold maxLen; omega, rfl, by simp⟩

theorem Try.info48 : (Try.prog.info? 48).map (fun i => (i.zero, i.size, i.bytes)) = some (some .nilIface, 1, 16) := by kernel_rfl

/-- What an argument more does: the list lies at g' (the old place, or a new block that is neither of bs). -/
structure Added (m g ib : Nat) (s : ByteArray) (args : List Value) (x : Value) (bs : List Nat) (w w' : World) : Prop where
  two : Two m g w w'
  cmd : ∃ g' cap', CmdAt w' m g' ib s (args ++ [x]) cap' ∧ (g' = g ∨ (w.heap.size ≤ g' ∧ g' ∉ bs))

/-- From the append's law and the store to 'Added'. -/
theorem added_of {m g ib cap : Nat} {s : ByteArray} {args : List Value} {x : Value} {bs : List Nat} {w W w1 : World} {g' cap' H : Nat} (h : CmdAt w m g ib s args cap) (hb : Below w.heap.size w W) (hbs : ∀ b ∈ bs, b < H) (hH : W.heap.size = H)
    (hown : w1.ownsRow 0 48 1 (.slice (some ⟨g', 0, none⟩) (args.length + 1 + 1) cap') (args.length + 1 + 1) ((.iface 51 (.pointer (some ⟨ib, 0, none⟩)) :: args) ++ [x]))
    (hgrow : W.grownBy w1 (Value.slice (some ⟨g, 0, none⟩) (args.length + 1) cap).ownBlock) (hat : (Value.slice (some ⟨g, 0, none⟩) (args.length + 1) cap).ownBlock = some g' ∨ g' = H) (hlt : g' < w1.heap.size) :
    Added m g ib s args x bs w (w1.setCell ⟨m, 3, none⟩ (.slice (some ⟨g', 0, none⟩) (args.length + 1 + 1) cap')) := by
  obtain ⟨hmg, him, hig⟩ := h.mg
  have lm := lt_of_heap h.node
  have li := lt_of_heap h.id
  have lg : g < w.heap.size := by obtain ⟨cur, h3, _⟩ := h.row; exact lt_of_heap h3
  have hsz := hb.size
  have hold : ∀ b, b < w.heap.size → b ≠ g → w1.heap[b]? = w.heap[b]? := fun b hb1 hbg =>
    (hgrow.block b (by omega) (fun e => hbg (by simpa [Value.ownBlock] using e))).trans (hb.block b hb1)
  have hat' : g' = g ∨ g' = H := by
    rcases hat with e | e
    · left; simpa [Value.ownBlock] using e.symm
    · exact .inr e
  have hg'm : g' ≠ m := by rcases hat' with e | e <;> omega
  refine ⟨⟨?_, ?_, ?_, ?_, ?_⟩, g', cap', ⟨?_, ?_, ?_⟩, ?_⟩
  · exact (show (w1.setCell _ _).os = w1.os from rfl).trans (hgrow.os.trans hb.os)
  · exact (show (w1.setCell _ _).tape = w1.tape from rfl).trans (hgrow.tape.trans hb.tape)
  · exact (show (w1.setCell _ _).output = w1.output from rfl).trans (hgrow.output.trans hb.output)
  · have := hgrow.size
    simp; omega
  · intro b hb1 hbm hbg
    rw [Below.heap_setCell _ _ _ _ (by exact hbm)]
    exact hold b hb1 hbg
  · rw [Below.heap_setCell _ _ _ _ (by exact him), hold ib li hig]
    exact h.id
  · have e := (hold m lm hmg).trans h.node
    rw [setCell_eq_setRow w1 m 3 _ 44 (0, 0) _ e, setRow_heap w1 m _ _ 44 (0, 0) e]
    simp
  · rcases hown.2 with ⟨e, _⟩ | ⟨g2, cap2, cur, e, _, h3, h4, h5, h6, h7⟩
    · cases e
    · cases e
      refine ⟨cur, ?_, by simpa using h4, h5, by simpa using h6, by simpa using h7⟩
      rw [Below.heap_setCell _ _ _ _ (by exact hg'm)]
      exact h3
  · rcases hat' with e | e
    · exact .inl e
    · right
      subst e
      exact ⟨by omega, fun hm => by have := hbs _ hm; omega⟩

set_option maxHeartbeats 1000000 in
theorem addPipe_any (m g ib cap : Nat) (c : Addr) (s : ByteArray) (args : List Value) (w : World) (h : CmdAt w m g ib s args cap) (hn : args.length ≤ 100000) :
    Calls Try.prog 13 #[.pointer (some ⟨m, 0, none⟩), .pointer (some c)] w fun e w' => e = .returned (.tuple #[]) ∧
      Added m g ib s args (.iface 35 (.pointer (some ⟨w.heap.size + 1, 0, none⟩))) [w.heap.size, w.heap.size + 1] w w' ∧
      w'.cell? ⟨w.heap.size + 1, 6, none⟩ = some (.slice (some ⟨w.heap.size, 0, none⟩) 1 1) ∧ w'.cell? ⟨w.heap.size, 0, none⟩ = some (.pointer (some c)) ∧ w.heap.size + 3 ≤ w'.heap.size := by
  obtain ⟨i0, hi, hz0, hz1, hz2⟩ := info_parts Try.info48
  have hm : w.cell? ⟨m, 3, none⟩ = some (.slice (some ⟨g, 0, none⟩) (args.length + 1) cap) := by rw [cell_of_heap h.node]; rfl
  have lm := lt_of_heap h.node
  have hown : w.ownsRow 0 48 1 (.slice (some ⟨g, 0, none⟩) (args.length + 1) cap) (args.length + 1) (.iface 51 (.pointer (some ⟨ib, 0, none⟩)) :: args) := by
    obtain ⟨cur, h3, h4, h5, h6, h7⟩ := h.row
    exact ⟨by simp, .inr ⟨g, cap, cur, rfl, Nat.zero_le _, h3, h4, h5, by omega, by rw [Nat.mul_one]; exact h7⟩⟩
  have HC := hide h
  have HO := hide hown
  clear h hown
  go_enter Try.func13, Try.ntmps13
  go_wp2_with (at_builtin; refine wpList_append_lies _ rfl (.tmp 8) (.tmp 14) 42 rfl 0 48 i0 .nilIface 1 16 Try.underlying42 hi hz0 hz1 hz2 rfl (by decide) _ _ _ rfl (((HO.out.alloc _).alloc _).alloc _) ⟨w.heap.size + 2, 0, none⟩ 1 1 [.iface 35 (.pointer (some ⟨w.heap.size + 1, 0, none⟩))] rfl rfl (World.news_of_block (cs := #[.iface 35 (.pointer (some ⟨w.heap.size + 1, 0, none⟩))]) (heap3 _ _ _ _).2.2) (by intro u hu; simp at hu; subst hu; rfl) (by omega) (by unfold maxLen; omega) (by omega) (Nat.zero_le _) (w.heap.size + 3) (by simp) ?_)
  intro g' cap' w1 hown' hgrow hat hlt
  have hA := fun bs hbs => hide (added_of (bs := bs) HC.out (below3 w _ _ _) hbs (by simp) hown' hgrow hat hlt)
  have HA := hA [w.heap.size, w.heap.size + 1] (by intro b hb; simp at hb; omega)
  have lg : g < w.heap.size := by obtain ⟨cur, h3, _⟩ := HC.out.row; exact lt_of_heap h3
  have hmg := HC.out.mg.1
  have far : ∀ b i, b < w.heap.size + 3 → b ≠ g → w1.cell? ⟨b, i, none⟩ = _ := fun b i hb hbg => hgrow.cell_far ⟨b, i, none⟩ (by simpa using hb) (by simp [Value.ownBlock, hbg])
  have ffar : ∀ b i, b < w.heap.size + 3 → b ≠ g → w1.frozen? ⟨b, i, none⟩ = _ := fun b i hb hbg => hgrow.frozen_far ⟨b, i, none⟩ (by simpa using hb) (by simp [Value.ownBlock, hbg])
  have q1 : w1.cell? ⟨m, 3, none⟩ = some (.slice (some ⟨g, 0, none⟩) (args.length + 1) cap) := by
    rw [far m 3 (by omega) hmg, (below3 w _ _ _).cell (p := ⟨m, 3, none⟩) lm]; exact hm
  have q2 : w1.frozen? ⟨m, 3, none⟩ = false := by
    rw [ffar m 3 (by omega) hmg, (below3 w _ _ _).frozen (p := ⟨m, 3, none⟩) lm]; exact free_of_heap HC.out.node
  have q3 : w1.cell? ⟨w.heap.size + 1, 6, none⟩ = some (.slice (some ⟨w.heap.size, 0, none⟩) 1 1) := by
    rw [far _ 6 (by omega) (by omega), cell_of_heap (heap3 _ _ _ _).2.1]; rfl
  have q4 : w1.cell? ⟨w.heap.size, 0, none⟩ = some (.pointer (some c)) := by
    rw [far _ 0 (by omega) (by omega), cell_of_heap (heap3 _ _ _ _).1]; rfl
  have q5 : w.heap.size + 3 ≤ w1.heap.size := by have := hgrow.size; simpa using this
  clear hA far ffar hown' hgrow hat hlt HC HO hm
  go_wp2
  go_end0
  refine ⟨rfl, unhide HA, ?_, ?_, by simpa using q5⟩
  · rw [World.cell?_setCell_other _ _ _ _ (by intro e; cases e)]; exact q3
  · rw [World.cell?_setCell_other _ _ _ _ (by intro e; cases e)]; exact q4

set_option maxHeartbeats 1000000 in
theorem addField_any (m g ib cap : Nat) (s : ByteArray) (args : List Value) (w : World) (h : CmdAt w m g ib s args cap) (hn : args.length ≤ 100000) :
    Calls Try.prog 14 #[.pointer (some ⟨m, 0, none⟩)] w fun e w' => e = .returned (.tuple #[]) ∧
      Added m g ib s args (.iface 54 (.pointer (some ⟨w.heap.size + 1, 0, none⟩))) [w.heap.size, w.heap.size + 1] w w' := by
  obtain ⟨i0, hi, hz0, hz1, hz2⟩ := info_parts Try.info48
  have hm : w.cell? ⟨m, 3, none⟩ = some (.slice (some ⟨g, 0, none⟩) (args.length + 1) cap) := by rw [cell_of_heap h.node]; rfl
  have lm := lt_of_heap h.node
  have hown : w.ownsRow 0 48 1 (.slice (some ⟨g, 0, none⟩) (args.length + 1) cap) (args.length + 1) (.iface 51 (.pointer (some ⟨ib, 0, none⟩)) :: args) := by
    obtain ⟨cur, h3, h4, h5, h6, h7⟩ := h.row
    exact ⟨by simp, .inr ⟨g, cap, cur, rfl, Nat.zero_le _, h3, h4, h5, by omega, by rw [Nat.mul_one]; exact h7⟩⟩
  have HC := hide h
  have HO := hide hown
  clear h hown
  go_enter Try.func14, Try.ntmps14
  go_wp2_with (at_builtin; refine wpList_append_lies _ rfl (.tmp 6) (.tmp 11) 42 rfl 0 48 i0 .nilIface 1 16 Try.underlying42 hi hz0 hz1 hz2 rfl (by decide) _ _ _ rfl (((HO.out.alloc _).alloc _).alloc _) ⟨w.heap.size + 2, 0, none⟩ 1 1 [.iface 54 (.pointer (some ⟨w.heap.size + 1, 0, none⟩))] rfl rfl (World.news_of_block (cs := #[.iface 54 (.pointer (some ⟨w.heap.size + 1, 0, none⟩))]) (heap3 _ _ _ _).2.2) (by intro u hu; simp at hu; subst hu; rfl) (by omega) (by unfold maxLen; omega) (by omega) (Nat.zero_le _) (w.heap.size + 3) (by simp) ?_)
  intro g' cap' w1 hown' hgrow hat hlt
  have hA := fun bs hbs => hide (added_of (bs := bs) HC.out (below3 w _ _ _) hbs (by simp) hown' hgrow hat hlt)
  have HA := hA [w.heap.size, w.heap.size + 1] (by intro b hb; simp at hb; omega)
  have hmg := HC.out.mg.1
  have q1 : w1.cell? ⟨m, 3, none⟩ = some (.slice (some ⟨g, 0, none⟩) (args.length + 1) cap) := by
    rw [hgrow.cell_far ⟨m, 3, none⟩ (by simp; omega) (by simp [Value.ownBlock, hmg]), (below3 w _ _ _).cell (p := ⟨m, 3, none⟩) lm]; exact hm
  have q2 : w1.frozen? ⟨m, 3, none⟩ = false := by
    rw [hgrow.frozen_far ⟨m, 3, none⟩ (by simp; omega) (by simp [Value.ownBlock, hmg]), (below3 w _ _ _).frozen (p := ⟨m, 3, none⟩) lm]; exact free_of_heap HC.out.node
  clear hA hown' hgrow hat hlt HC HO hm
  go_wp2
  go_end0
  exact ⟨rfl, unhide HA⟩
end Go.Proofs.Qxb6614339a
