import Derived.Test.Qxb6614337aFmtErrs
import Derived.WalkLawsBesides
namespace Go.Proofs.Qxb6614337aFmt
open Go.RowKit
set_option linter.unusedVariables false

/-- w' is w with new blocks and with writes to block b alone. -/
def Only (b : Nat) (w w' : World) : Prop := w.grownBy w' (some b)

theorem Only.refl (b : Nat) (w : World) : Only b w w := ⟨rfl, rfl, rfl, Nat.le_refl _, fun _ _ _ => rfl⟩
theorem Only.trans {b : Nat} {u v w : World} (h : Only b u v) (k : Only b v w) : Only b u w :=
  ⟨k.os.trans h.os, k.tape.trans h.tape, k.output.trans h.output, Nat.le_trans h.size k.size, fun i hi hne => (k.block i (Nat.lt_of_lt_of_le hi h.size) hne).trans (h.block i hi hne)⟩
theorem Only.drew {b : Nat} {u v : World} (h : Only b u v) : Only b u v.drew := ⟨h.os, h.tape, h.output, h.size, h.block⟩
theorem Only.alloc {b : Nat} {u v : World} (h : Only b u v) (o : Obj) : Only b u (v.alloc o) :=
  h.trans ⟨rfl, rfl, rfl, by simp, fun k hk _ => Below.heap_alloc v o k hk⟩
theorem Only.setCell {b : Nat} {u v : World} (h : Only b u v) (i : Nat) (x : Value) : Only b u (v.setCell ⟨b, i, none⟩ x) :=
  h.trans ⟨rfl, rfl, rfl, by simp, fun k hk hne => Below.heap_setCell v _ x k (fun e => hne (by rw [e]))⟩
theorem Only.of_below {b : Nat} {u v : World} (h : Below u.heap.size u v) : Only b u v := ⟨h.os, h.tape, h.output, h.size, fun k hk _ => h.block k hk⟩
theorem Only.below {B b : Nat} {u v : World} (h : Only b u v) (hB : B ≤ b) (hs : B ≤ u.heap.size) : Below B u v :=
  ⟨h.os, h.tape, h.output, h.size, fun k hk => h.block k (Nat.lt_of_lt_of_le hk hs) (fun e => by cases e; omega)⟩
theorem Only.cell {b : Nat} {u v : World} (h : Only b u v) {g i : Nat} (hg : g < u.heap.size) (hne : g ≠ b) : v.cell? ⟨g, i, none⟩ = u.cell? ⟨g, i, none⟩ :=
  World.cell?_of_block (h.block g hg (fun e => hne (by cases e; rfl)))
theorem Only.frozen {b : Nat} {u v : World} (h : Only b u v) {g i : Nat} (hg : g < u.heap.size) (hne : g ≠ b) : v.frozen? ⟨g, i, none⟩ = u.frozen? ⟨g, i, none⟩ :=
  World.frozen?_of_block (h.block g hg (fun e => hne (by cases e; rfl)))

/-- v is a slice of bytes in a block other than b (or nil): its elements are xs. -/
def Row (w : World) (b : Nat) (v : Value) (xs : List Int) : Prop :=
  (v = .slice none 0 0 ∧ xs = []) ∨
  ∃ g off cap, v = .slice (some ⟨g, off, none⟩) xs.length cap ∧ xs.length ≤ cap ∧ cap ≤ maxLen ∧ g ≠ b ∧ g < w.heap.size ∧ (∀ i, i < xs.length → w.cell? ⟨g, off + i, none⟩ = some (.int .u8 (xs.getD i 0))) ∧ ∀ i, 0 ≤ xs.getD i 0 ∧ xs.getD i 0 ≤ 255

theorem Row.keep {w w' : World} {b : Nat} {v : Value} {xs : List Int} (h : Row w b v xs) (o : Only b w w') : Row w' b v xs := by
  rcases h with h | ⟨g, off, cap, h1, h2, h3, h4, h5, h6, h7⟩
  · exact .inl h
  · exact .inr ⟨g, off, cap, h1, h2, h3, h4, Nat.lt_of_lt_of_le h5 o.size, fun i hi => (o.cell h5 h4).trans (h6 i hi), h7⟩

def zeros (n : Nat) : Array Value := madeCells (Value.int .u8 0).cells (n * 1)

theorem run_made (w : World) (n : Nat) (h : n ≤ 1048576) :
    (Instr.makeSlice 23 (.int .i64 (n : Int)) (.int .i64 (n : Int))).run Tryf.prog w = .ok (.slice (some ⟨w.heap.size, 0, none⟩) n n) (w.alloc (.cells (zeros n) 5)) := by
  have hinfo : (Tryf.prog.info? 5).map (fun i => (i.zero, i.size, i.bytes)) = some (some (.int .u8 0), 1, 1) := by kernel_rfl
  obtain ⟨i0, hi, hz0, hz1, hz2⟩ := info_parts hinfo
  have h := run_make (P := Tryf.prog) w 23 5 i0 (.int .u8 0) Tryf.underlying23 hi hz0 .i64 .i64 n n (by omega) (by omega) (by rw [hz2]; omega) (by omega)
  rw [h, hz1]
  simp [zeros]


set_option maxHeartbeats 400000 in
theorem bytes_short (b : Nat) (ad : Option Addr) (len cap n : Nat) (sh : Bool) (w : World) (hn : n ≤ 255) (hlt : len < n) (hbl : b < w.heap.size)
    (c0 : w.cell? ⟨b, 0, none⟩ = some (.slice ad len cap)) (c1 : w.cell? ⟨b, 1, none⟩ = some (.bool sh)) (f0 : w.frozen? ⟨b, 0, none⟩ = false) (f1 : w.frozen? ⟨b, 1, none⟩ = false) :
    Calls Tryf.prog 15 #[.pointer (some ⟨b, 0, none⟩), .int .i64 (n : Int)] w fun e w' => e = .returned (.slice (some ⟨w.heap.size, 0, none⟩) n n) ∧
      w' = ((w.setCell ⟨b, 1, none⟩ (.bool true)).setCell ⟨b, 0, none⟩ (.slice none 0 0)).alloc (.cells (zeros n) 5) := by
  have hmk : ∀ w, _ := fun w => run_made w n (by omega)
  have hlt' : (len : Int) < (n : Int) := by omega
  go_enter Tryf.func15, Tryf.ntmps15
  go_wp2
  go_ret
  exact ⟨by simp, rfl⟩

set_option maxHeartbeats 400000 in
theorem bytes_nil (b : Nat) (sh : Bool) (w : World) (hbl : b < w.heap.size)
    (c0 : w.cell? ⟨b, 0, none⟩ = some (.slice none 0 0)) (c1 : w.cell? ⟨b, 1, none⟩ = some (.bool sh)) (f0 : w.frozen? ⟨b, 0, none⟩ = false) (f1 : w.frozen? ⟨b, 1, none⟩ = false) :
    Calls Tryf.prog 15 #[.pointer (some ⟨b, 0, none⟩), .int .i64 0] w fun e w' => e = .returned (.slice none 0 0) ∧
      w' = w.setCell ⟨b, 0, none⟩ (.slice none 0 0) := by
  go_enter Tryf.func15, Tryf.ntmps15
  go_wp2
  go_ret
  exact ⟨rfl, rfl⟩

set_option maxHeartbeats 400000 in
theorem bytes_some (b g off len cap n : Nat) (sh : Bool) (w : World) (hn : n ≤ 255) (hle : n ≤ len) (hcap : len ≤ cap) (hm : cap ≤ maxLen) (hbl : b < w.heap.size)
    (c0 : w.cell? ⟨b, 0, none⟩ = some (.slice (some ⟨g, off, none⟩) len cap)) (c1 : w.cell? ⟨b, 1, none⟩ = some (.bool sh)) (f0 : w.frozen? ⟨b, 0, none⟩ = false) (f1 : w.frozen? ⟨b, 1, none⟩ = false) :
    Calls Tryf.prog 15 #[.pointer (some ⟨b, 0, none⟩), .int .i64 (n : Int)] w fun e w' => e = .returned (.slice (some ⟨g, off, none⟩) n cap) ∧
      ∃ off', (len ≠ n → off' = off + n) ∧ w' = w.setCell ⟨b, 0, none⟩ (.slice (some ⟨g, off', none⟩) (len - n) (cap - n)) := by
  have hle' : ¬ (len : Int) < (n : Int) := by omega
  have hle2 : (n : Int) ≤ (len : Int) := by omega
  have hle3 : (n : Int) ≤ (cap : Int) := by omega
  unfold maxLen at hm
  by_cases hc : cap = n
  · obtain rfl : len = n := by omega
    subst hc
    go_enter Tryf.func15, Tryf.ntmps15
    go_wp2
    go_ret
    exact ⟨rfl, off, rfl⟩
  · go_enter Tryf.func15, Tryf.ntmps15
    go_wp2
    go_ret
    exact ⟨rfl, off + n, fun _ => rfl, rfl⟩

theorem set_other (w : World) (b i j : Nat) (x : Value) (h : i ≠ j) : (w.setCell ⟨b, i, none⟩ x).cell? ⟨b, j, none⟩ = w.cell? ⟨b, j, none⟩ :=
  World.cell?_setCell_other _ _ _ _ (by intro e; cases e; exact h rfl)

/-- A slice in a block below b, or nil. -/
def Low (b : Nat) (v : Value) : Prop := ∀ g off len cap, v = .slice (some ⟨g, off, none⟩) len cap → g < b
theorem Low.nil (b : Nat) : Low b (.slice none 0 0) := fun _ _ _ _ h => by cases h
theorem Low.some {b g off len cap : Nat} (h : g < b) : Low b (.slice (some ⟨g, off, none⟩) len cap) := fun _ _ _ _ e => by cases e; exact h

/-- The decoder at block b: what is left of the packet (in a block below b); whether a read went past its end. -/
def Dec (w : World) (b : Nat) (xs : List Int) (sh : Bool) : Prop :=
  ∃ v, w.cell? ⟨b, 0, none⟩ = some v ∧ Row w b v xs ∧ w.cell? ⟨b, 1, none⟩ = some (.bool sh) ∧ w.frozen? ⟨b, 0, none⟩ = false ∧ w.frozen? ⟨b, 1, none⟩ = false ∧ b < w.heap.size ∧ Low b v

theorem Dec.other {w w' : World} {b : Nat} {xs : List Int} {sh : Bool} (h : Dec w b xs sh) (hb : Below (b + 1) w w') : Dec w' b xs sh := by
  obtain ⟨v, h1, h2, h3, h4, h5, h6, h7⟩ := h
  refine ⟨v, (hb.cell (p := ⟨b, 0, none⟩) (by simp)).trans h1, ?_, (hb.cell (p := ⟨b, 1, none⟩) (by simp)).trans h3, (hb.frozen (p := ⟨b, 0, none⟩) (by simp)).trans h4, (hb.frozen (p := ⟨b, 1, none⟩) (by simp)).trans h5, Nat.lt_of_lt_of_le h6 hb.size, h7⟩
  rcases h2 with h | ⟨g, off, cap, rfl, q2, q3, q4, q5, q6, q7⟩
  · exact .inl h
  · have hg : g < b := h7 _ _ _ _ rfl
    exact .inr ⟨g, off, cap, rfl, q2, q3, q4, Nat.lt_of_lt_of_le q5 hb.size, fun i hi => (hb.cell (p := ⟨g, off + i, none⟩) (by show g < b + 1; omega)).trans (q6 i hi), q7⟩

theorem Row.len {w : World} {b : Nat} {v : Value} {xs : List Int} (h : Row w b v xs) : ∃ ad cap, v = .slice ad xs.length cap := by
  rcases h with ⟨rfl, rfl⟩ | ⟨g, off, cap, h1, _⟩
  · exact ⟨none, 0, rfl⟩
  · exact ⟨_, _, h1⟩

theorem zeros_get (n i : Nat) (h : i < n) : (zeros n)[i]? = some (.int .u8 0) := by
  have e : zeros n = (List.replicate n (Value.int .u8 0)).toArray := by
    apply Array.ext'
    rw [show (zeros n).toList = _ from toList_madeCells_one (.int .u8 0) (n * 1)]
    simp
  rw [e]
  simp [h]

theorem Row.sub {w : World} {b g off : Nat} {xs : List Int} (k m cap off' : Nat) (hg : g ≠ b) (hgl : g < w.heap.size) (hc : ∀ i, i < xs.length → w.cell? ⟨g, off + i, none⟩ = some (.int .u8 (xs.getD i 0))) (hr : ∀ i, 0 ≤ xs.getD i 0 ∧ xs.getD i 0 ≤ 255)
    (hkm : k + m ≤ xs.length) (hcap : m ≤ cap) (hm : cap ≤ maxLen) (ho : m ≠ 0 → off' = off + k) : Row w b (.slice (some ⟨g, off', none⟩) m cap) ((xs.drop k).take m) := by
  have hl : ((xs.drop k).take m).length = m := by simp; omega
  have hget : ∀ i, i < m → ((xs.drop k).take m).getD i 0 = xs.getD (k + i) 0 := by
    intro i hi
    have h1 : k + i < xs.length := by omega
    simp [List.getD, List.getElem?_drop, hi]
  refine .inr ⟨g, off', cap, by rw [hl], by rw [hl]; exact hcap, hm, hg, hgl, ?_, ?_⟩
  · intro i hi
    rw [hl] at hi
    rw [hget i hi, ho (by omega), Nat.add_assoc]
    exact hc _ (by omega)
  · intro i
    by_cases hi : i < m
    · rw [hget i hi]; exact hr _
    · rw [List.getD, List.getElem?_eq_none (by omega)]; simp

/-- 'd.bytes(n)': n bytes, and what is left; zeros, and short, where fewer are left. -/
theorem bytes_any (b n : Nat) (xs : List Int) (sh : Bool) (w : World) (hn : n ≤ 255) (hd : Dec w b xs sh) :
    Calls Tryf.prog 15 #[.pointer (some ⟨b, 0, none⟩), .int .i64 (n : Int)] w fun e w' => ∃ v ys, e = .returned v ∧ Row w' b v ys ∧ ys.length = n ∧ Only b w w' ∧
      ((n ≤ xs.length ∧ ys = xs.take n ∧ Dec w' b (xs.drop n) sh) ∨ (xs.length < n ∧ ys = List.replicate n 0 ∧ Dec w' b [] true)) := by
  obtain ⟨v, h1, h2, h3, h4, h5, h6, h7⟩ := hd
  by_cases hlt : xs.length < n
  · obtain ⟨ad, cap, rfl⟩ := h2.len
    refine (bytes_short b ad xs.length cap n sh w hn hlt h6 h1 h3 h4 h5).mono ?_
    rintro e w' ⟨rfl, rfl⟩
    have o : Only b w (((w.setCell ⟨b, 1, none⟩ (.bool true)).setCell ⟨b, 0, none⟩ (.slice none 0 0)).alloc (.cells (zeros n) 5)) := (((Only.refl b w).setCell 1 _).setCell 0 _).alloc _
    refine ⟨_, List.replicate n 0, rfl, ?_, by simp, o, .inr ⟨hlt, rfl, ?_⟩⟩
    · refine .inr ⟨w.heap.size, 0, n, by simp, by simp, by unfold maxLen; omega, by omega, by simp, ?_, ?_⟩
      · intro i hi
        simp at hi
        rw [World.cell?_alloc_at _ _ _ _ (by simp), Nat.zero_add, zeros_get n i hi]
        simp [hi]
      · intro i
        by_cases hi : i < n <;> simp [List.getD, hi]
    · refine ⟨.slice none 0 0, ?_, .inl ⟨rfl, rfl⟩, ?_, ?_, ?_, by simp; omega, Low.nil b⟩
      · rw [World.cell?_alloc_past _ _ _ (by simpa using h6)]
        exact World.cell?_setCell_same' _ _ _ (by rw [set_other _ _ _ _ _ (by omega), h1]; rfl)
      · rw [World.cell?_alloc_past _ _ _ (by simpa using h6), set_other _ _ _ _ _ (by omega)]
        exact World.cell?_setCell_same _ _ _ h3
      · rw [World.frozen?_alloc_past _ _ _ (by simpa using h6)]; simpa using h4
      · rw [World.frozen?_alloc_past _ _ _ (by simpa using h6)]; simpa using h5
  · rcases h2 with ⟨rfl, rfl⟩ | ⟨g, off, cap, rfl, hc1, hc2, hg, hgl, hcell, hr⟩
    · obtain rfl : n = 0 := by simp at hlt; omega
      refine (bytes_nil b sh w h6 h1 h3 h4 h5).mono ?_
      rintro e w' ⟨rfl, rfl⟩
      refine ⟨_, [], rfl, .inl ⟨rfl, rfl⟩, rfl, (Only.refl b w).setCell 0 _, .inl ⟨by simp, rfl, ?_⟩⟩
      exact ⟨_, World.cell?_setCell_same _ _ _ h1, .inl ⟨rfl, rfl⟩, by rw [set_other _ _ _ _ _ (by omega)]; exact h3, by simpa using h4, by simpa using h5, by simpa using h6, Low.nil b⟩
    · refine (bytes_some b g off xs.length cap n sh w hn (by omega) hc1 hc2 h6 h1 h3 h4 h5).mono ?_
      rintro e w' ⟨rfl, off', ho, rfl⟩
      have o : Only b w (w.setCell ⟨b, 0, none⟩ (.slice (some ⟨g, off', none⟩) (xs.length - n) (cap - n))) := (Only.refl b w).setCell 0 _
      have r1 := Row.sub (w := w) (b := b) (xs := xs) 0 n cap off hg hgl hcell hr (by omega) (by omega) hc2 (by omega)
      have r2 := Row.sub (w := w) (b := b) (xs := xs) n (xs.length - n) (cap - n) off' hg hgl hcell hr (by omega) (by omega) (by omega) (by omega)
      rw [List.drop_zero] at r1
      rw [List.take_of_length_le (by simp)] at r2
      refine ⟨_, xs.take n, rfl, r1.keep o, by simp; omega, o, .inl ⟨by omega, rfl, ?_⟩⟩
      exact ⟨_, World.cell?_setCell_same _ _ _ h1, r2.keep o, by rw [set_other _ _ _ _ _ (by omega)]; exact h3, by simpa using h4, by simpa using h5, by simpa using h6, Low.some (h7 _ _ _ _ rfl)⟩
end Go.Proofs.Qxb6614337aFmt
