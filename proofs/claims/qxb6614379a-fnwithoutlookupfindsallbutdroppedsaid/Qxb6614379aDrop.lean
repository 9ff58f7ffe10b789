import Derived.Test.Qxb6614379aBuilt
namespace Go.Proofs.Qxb6614379a
open Go.RowKit
set_option linter.unusedVariables false
set_option linter.unusedSimpArgs false

/-- append at a step of a region that draws, whatever is appended (nothing too): the new value a letter. -/
theorem step_append_own {P : Program} (w : World) {ops : Array Oper} {o : Oper} {a : Act} {K : Act → World → Prop} {Q : Exit → Act → World → Prop} {E : Prop} (hgd : o.guard = none) (s x : Operand) (t : TypeId)
    (ho : o.op = .call { callee := .builtin .append, args := #[s, x], argTypes := #[t, t] })
    (base : Nat) (e : TypeId) (i : TypeInfo) (z : Value) (size bytes : Nat) (ht : P.underlying t = some (.slice e)) (hi : P.info? e = some i) (hz : i.zero = some z)
    (hsize : i.size = size) (hby : i.bytes = bytes) (hzs : z.cells.size = size) (hsz : 0 < size)
    (v : Value) (n : Nat) (xs : List Value) (hs : a.eval s = v) (hown : w.ownsRow base e size v n xs)
    (ad : Addr) (m c : Nat) (news : List Value) (hx : a.eval x = .slice (some ad) m c) (hl : news.length = m * size) (hnews : ∀ j u, news[j]? = some u → w.cell? (ad.add j) = some u) (h1 : ∀ u ∈ news, u.oneCell' = true)
    (h63 : n + m ≤ maxLen) (hbytes : (n + m) * bytes ≤ 140737488355328) (hbase : base ≤ w.heap.size)
    (h : ∀ v' w', w'.ownsRow base e size v' (n + m) (xs ++ news) → w.grownBy w' v.ownBlock → K (a.put o.dst v') w') :
    if Region.wanted o (yielded ops a.tmps) = true then Oper.wp P o a w K Q else E := by
  have hw : Region.wanted o (yielded ops a.tmps) = true := by simp [Region.wanted, hgd]
  rw [if_pos hw]
  exact wp_append_own w s x t ho base e i z size bytes ht hi hz hsize hby hzs hsz v n xs hs hown ad m c news hx hl hnews h1 h63 hbytes hbase fun v' w' h2 h3 _ => h v' w' h2 h3

theorem owns_shape {w : World} {base e size : Nat} {v : Value} {n : Nat} {xs : List Value} (h : w.ownsRow base e size v n xs) : ∃ ao m cp, v = .slice ao m cp ∧ m = n := by
  rcases h.2 with ⟨hv, hn⟩ | ⟨g, cap, cur, hv, _⟩
  · exact ⟨none, 0, 0, hv, hn.symm⟩
  · exact ⟨_, _, _, hv, rfl⟩

theorem cells_one (S L : Nat → ByteArray) (N : Nat → Option Addr) (P V : Nat → ByteArray) (n : Nat) : ∀ u ∈ cells S L N P V n, u.oneCell' = true := by
  intro u hu
  obtain ⟨k, _, hk⟩ := List.mem_flatMap.1 hu
  simp [six] at hk
  rcases hk with rfl | rfl | rfl | rfl | rfl | rfl <;> rfl

theorem cells_add (S L : Nat → ByteArray) (N : Nat → Option Addr) (P V : Nat → ByteArray) (a b : Nat) :
    cells S L N P V (a + b) = cells S L N P V a ++ cells (fun k => S (a + k)) (fun k => L (a + k)) (fun k => N (a + k)) (fun k => P (a + k)) (fun k => V (a + k)) b := by
  induction b with
  | zero => simp [cells]
  | succ b ih =>
    rw [← Nat.add_assoc, cells_succ, ih, cells_succ, List.append_assoc]
    rfl

theorem cells_same {S L : Nat → ByteArray} {N : Nat → Option Addr} {P V : Nat → ByteArray} {S' L' : Nat → ByteArray} {N' : Nat → Option Addr} {P' V' : Nat → ByteArray} (n : Nat)
    (h : ∀ k, k < n → S' k = S k ∧ L' k = L k ∧ N' k = N k ∧ P' k = P k ∧ V' k = V k) : cells S' L' N' P' V' n = cells S L N P V n := by
  induction n with
  | zero => rfl
  | succ n ih =>
    obtain ⟨h1, h2, h3, h4, h5⟩ := h n (by omega)
    rw [cells_succ, cells_succ, ih (fun k hk => h k (by omega))]
    simp [six, h1, h2, h3, h4, h5]

/-- The k-th of the attributes that are left where the i-th is dropped. -/
def dr (i k : Nat) : Nat := if k < i then k else k + 1

theorem cells_dropped (S L : Nat → ByteArray) (N : Nat → Option Addr) (P V : Nat → ByteArray) (n i : Nat) (hi : i < n) :
    cells S L N P V i ++ cells (fun k => S (i + 1 + k)) (fun k => L (i + 1 + k)) (fun k => N (i + 1 + k)) (fun k => P (i + 1 + k)) (fun k => V (i + 1 + k)) (n - (i + 1)) =
      cells (fun k => S (dr i k)) (fun k => L (dr i k)) (fun k => N (dr i k)) (fun k => P (dr i k)) (fun k => V (dr i k)) (n - 1) := by
  rw [show n - 1 = i + (n - (i + 1)) by omega, cells_add]
  congr 1
  · symm
    refine cells_same i fun k hk => ?_
    simp [dr, hk]
  · symm
    refine cells_same _ fun k hk => ?_
    simp [dr, show i + k + 1 = i + 1 + k by omega, show ¬ (i + k < i) by omega]

theorem cells_lt {S L : Nat → ByteArray} {N : Nat → Option Addr} {P V : Nat → ByteArray} {n j : Nat} {u : Value} (h : (cells S L N P V n)[j]? = some u) : j < n * 6 := by
  have := (List.getElem?_eq_some_iff.1 h).1
  rwa [cells_length] at this

theorem news_first {w : World} {base g n cap : Nat} {S L : Nat → ByteArray} {N : Nat → Option Addr} {P V : Nat → ByteArray} (h : w.ownsRow base 93 6 (.slice (some ⟨g, 0, none⟩) n cap) n (cells S L N P V n)) (i : Nat) (hi : i < n) :
    ∀ j u, (cells S L N P V i)[j]? = some u → w.cell? ((⟨g, 0, none⟩ : Addr).add j) = some u := by
  intro j u hu
  have hj := cells_lt hu
  rw [Addr.add_lit, Nat.zero_add, h.cellAt j (by omega), show n = i + (n - i) by omega, cells_add, List.getElem?_append_left (by rw [cells_length]; exact hj)]
  exact hu

theorem news_tail {w : World} {base g n cap : Nat} {S L : Nat → ByteArray} {N : Nat → Option Addr} {P V : Nat → ByteArray} (h : w.ownsRow base 93 6 (.slice (some ⟨g, 0, none⟩) n cap) n (cells S L N P V n)) (i : Nat) (hi : i < n) :
    ∀ j u, (cells (fun k => S (i + 1 + k)) (fun k => L (i + 1 + k)) (fun k => N (i + 1 + k)) (fun k => P (i + 1 + k)) (fun k => V (i + 1 + k)) (n - (i + 1)))[j]? = some u → w.cell? ((⟨g, (i + 1) * 6, none⟩ : Addr).add j) = some u := by
  intro j u hu
  have hj := cells_lt hu
  rw [Addr.add_lit, h.cellAt ((i + 1) * 6 + j) (by omega)]
  have e := cells_add S L N P V (i + 1) (n - (i + 1))
  rw [show i + 1 + (n - (i + 1)) = n by omega] at e
  rw [e, List.getElem?_append_right (by rw [cells_length]; omega), cells_length, show (i + 1) * 6 + j - (i + 1) * 6 = j by omega]
  exact hu

set_option maxHeartbeats 400000 in
theorem content48 (eb bb : Nat) (v : Value) (w : World) (ce : w.cell? ⟨eb, 2, none⟩ = some (.pointer (some ⟨bb, 0, none⟩))) (cb : w.cell? ⟨bb, 1, none⟩ = some v) :
    Calls Try.prog 48 #[.pointer (some ⟨eb, 0, none⟩)] w fun e w' => e = .returned v ∧ w = w' := by
  go_enter Try.func48, Try.ntmps48
  go_wp2
  go_ret
  exact ⟨by simp, rfl⟩

theorem held_of {w W w2 : World} {hb t bb : Nat} {s : ByteArray} {i n m2 cp2 : Nat} {ao2 : Option Addr} {S L : Nat → ByteArray} {N : Nat → Option Addr} {P V : Nat → ByteArray} (hi : i < n) (hsW : W.heap.size = w.heap.size + 1) (hbW : Below w.heap.size w W)
    (h0 : w.cell? ⟨hb, 0, none⟩ = some (.pointer (some ⟨t, 0, none⟩))) (t0 : w.cell? ⟨t, 0, none⟩ = some (.string s))
    (hown : w2.ownsRow W.heap.size 93 6 (.slice ao2 m2 cp2) (0 + i + (n - (i + 1))) ([] ++ cells S L N P V i ++ cells (fun k => S (i + 1 + k)) (fun k => L (i + 1 + k)) (fun k => N (i + 1 + k)) (fun k => P (i + 1 + k)) (fun k => V (i + 1 + k)) (n - (i + 1))))
    (hB2 : Below W.heap.size W w2) (r3 : w2.heap[w.heap.size]? = some (.cells #[.pointer (some ⟨hb, 0, none⟩), .int .i64 0, .pointer (some ⟨bb, 0, none⟩)] 79 (0, 0))) (hm2 : m2 = 0 + i + (n - (i + 1))) :
    Held ((w2.setCell ⟨w.heap.size, 2, none⟩ (.pointer (some ⟨w2.heap.size, 0, none⟩))).alloc (.cells #[.slice ao2 m2 cp2, .slice none 0 0] 98)) w.heap.size w2.heap.size hb t s ao2 (n - 1) cp2 (fun k => S (dr i k)) (fun k => L (dr i k)) (fun k => N (dr i k)) (fun k => P (dr i k)) (fun k => V (dr i k)) ∧
    Below w.heap.size w ((w2.setCell ⟨w.heap.size, 2, none⟩ (.pointer (some ⟨w2.heap.size, 0, none⟩))).alloc (.cells #[.slice ao2 m2 cp2, .slice none 0 0] 98)) := by
  have hlt := lt_of_heap r3
  have r4 : w2.cell? ⟨w.heap.size, 2, none⟩ = some (.pointer (some ⟨bb, 0, none⟩)) := by rw [cell_of_row w2 w.heap.size 2 _ _ _ r3]; rfl
  have r0 : w2.cell? ⟨w.heap.size, 0, none⟩ = some (.pointer (some ⟨hb, 0, none⟩)) := by rw [cell_of_row w2 w.heap.size 0 _ _ _ r3]; rfl
  have hb2 : Below w.heap.size w w2 := hbW.trans (hB2.mono (by omega))
  have hB : Below w.heap.size w ((w2.setCell ⟨w.heap.size, 2, none⟩ (.pointer (some ⟨w2.heap.size, 0, none⟩))).alloc (.cells #[.slice ao2 m2 cp2, .slice none 0 0] 98)) := (hb2.setCell (Nat.le_refl _) _).alloc (by simp; omega) _
  have hm : m2 = n - 1 := by omega
  have hx : 0 + i + (n - (i + 1)) = n - 1 := by omega
  rw [List.nil_append, cells_dropped S L N P V n i hi, hx, hm] at hown
  subst hm
  refine ⟨⟨?_, ?_, ?_, ?_, ?_, ?_⟩, hB⟩
  · rw [World.cell?_alloc_lt _ _ _ (by simpa using hlt), World.cell?_setCell_other _ _ _ _ (by intro e; cases e)]
    exact r0
  · rw [World.cell?_alloc_lt _ _ _ (by simpa using hlt)]
    exact World.cell?_setCell_same _ _ _ r4
  · rw [World.cell?_alloc_at _ _ _ _ (by simp)]
    rfl
  · rw [hB.cell (p := ⟨hb, 0, none⟩) (lt_of_cell h0)]
    exact h0
  · rw [hB.cell (p := ⟨t, 0, none⟩) (lt_of_cell t0)]
    exact t0
  · exact row_of_owns ((ownsRow_setCell_below hown (a := ⟨w.heap.size, 2, none⟩) (by show w.heap.size < _; omega) _).alloc _)

set_option maxRecDepth 20000 in
set_option maxHeartbeats 2000000 in
theorem without43 {eb bb hb t base : Nat} {s : ByteArray} {g n cap : Nat} {S L : Nat → ByteArray} {N : Nat → Option Addr} {P V : Nat → ByteArray} (i : Nat) (w : World) (hi : i < n) (hn : n ≤ 1024) (hh : Held w eb bb hb t s (some ⟨g, 0, none⟩) n cap S L N P V)
    (e1 : w.cell? ⟨eb, 1, none⟩ = some (.int .i64 0)) (b1 : w.cell? ⟨bb, 1, none⟩ = some (.slice none 0 0)) (hrow : w.ownsRow base 93 6 (.slice (some ⟨g, 0, none⟩) n cap) n (cells S L N P V n)) :
    Calls Try.prog 43 #[.pointer (some ⟨eb, 0, none⟩), .int .i64 (i : Int)] w fun e w' => e = .returned (.pointer (some ⟨w.heap.size, 0, none⟩)) ∧
      (∃ bb' ao' cap', Held w' w.heap.size bb' hb t s ao' (n - 1) cap' (fun k => S (dr i k)) (fun k => L (dr i k)) (fun k => N (dr i k)) (fun k => P (dr i k)) (fun k => V (dr i k))) ∧ Below w.heap.size w w' := by
  obtain ⟨i0, hi0, hz0, hz1, hz2⟩ := info_parts Try.info93
  have hcap : n ≤ cap ∧ cap ≤ maxLen := by
    rcases hrow.2 with ⟨h0, _⟩ | ⟨g', cap', cur, hv, _, _, h5, h6, _⟩
    · cases h0
    · simp only [Value.slice.injEq] at hv
      rw [hv.2.2]
      exact ⟨h5, h6⟩
  unfold maxLen at hcap
  have e0 := hh.e0
  have e2 := hh.e2
  have le := lt_of_cell e0
  have lb := lt_of_cell b1
  have HH := hide hh
  have HR := hide hrow
  clear hh hrow
  go_enter Try.func43, Try.ntmps43
  go_wp2_with fail
  refine (attrs44 eb bb (.slice (some ⟨g, 0, none⟩) n cap) _ ?_ ?_).mono ?_
  · go_simp
  · have b0 := HH.out.b0
    go_simp
  rintro e w1 ⟨rfl, rfl⟩
  go_wp2_with fail
  have hbW : Below w.heap.size w (w.alloc (.cells #[.pointer (some ⟨hb, 0, none⟩), .int .i64 0, .pointer (some ⟨bb, 0, none⟩)] 79)) := (Below.refl _ _).alloc (Nat.le_refl _) _
  have hcW : (w.alloc (.cells #[.pointer (some ⟨hb, 0, none⟩), .int .i64 0, .pointer (some ⟨bb, 0, none⟩)] 79)).heap[w.heap.size]? = some (.cells #[.pointer (some ⟨hb, 0, none⟩), .int .i64 0, .pointer (some ⟨bb, 0, none⟩)] 79 (0, 0)) := by
    show (w.heap.push _)[w.heap.size]? = _
    rw [Array.getElem?_push_size]
  have hsW : (w.alloc (.cells #[.pointer (some ⟨hb, 0, none⟩), .int .i64 0, .pointer (some ⟨bb, 0, none⟩)] 79)).heap.size = w.heap.size + 1 := by simp
  have e2W := (hbW.cell (p := ⟨eb, 2, none⟩) le).trans e2
  have b1W := (hbW.cell (p := ⟨bb, 1, none⟩) lb).trans b1
  have HRW := hide (owns_below HR.out hbW (Nat.le_refl _))
  have HBW := hide hbW
  have HCW := hide hcW
  have hgs : g < w.heap.size := by
    obtain ⟨g', cap', hv, _, hl⟩ := HR.out.form (by omega)
    simp only [Value.slice.injEq, Option.some.injEq, Addr.mk.injEq] at hv
    omega
  clear hbW hcW e2 b1 HR e1 e0
  generalize w.alloc (.cells #[.pointer (some ⟨hb, 0, none⟩), .int .i64 0, .pointer (some ⟨bb, 0, none⟩)] 79) = W at *
  have d2 : W.drew.cell? ⟨eb, 2, none⟩ = some (.pointer (some ⟨bb, 0, none⟩)) := e2W
  have d1 : W.drew.cell? ⟨bb, 1, none⟩ = some (.slice none 0 0) := b1W
  have N1 := hide (news_first HRW.out i hi)
  have N2 := hide (news_tail HRW.out i hi)
  have hic : i ≤ cap := by omega
  have hwr : IntKind.i64.wrap ((i : Int) + 1) = (i : Int) + 1 := by rw [IntKind.wrap_i64]; omega
  have hp0 : (0 : Int) ≤ (i : Int) + 1 := by omega
  have hp1 : (i : Int) + 1 ≤ (n : Int) := by omega
  have hp2 : ((i : Int) + 1).toNat = i + 1 := by omega
  have HO1 := hide (cells_one S L N P V i)
  have HO2 := hide (cells_one (fun k => S (i + 1 + k)) (fun k => L (i + 1 + k)) (fun k => N (i + 1 + k)) (fun k => P (i + 1 + k)) (fun k => V (i + 1 + k)) (n - (i + 1)))
  have HL1 := hide (cells_length S L N P V i)
  have HL2 := hide (cells_length (fun k => S (i + 1 + k)) (fun k => L (i + 1 + k)) (fun k => N (i + 1 + k)) (fun k => P (i + 1 + k)) (fun k => V (i + 1 + k)) (n - (i + 1)))
  obtain ⟨A, hA, hAb, hAn⟩ : ∃ A : Addr, (if cap = i + 1 then some (⟨g, 0, none⟩ : Addr) else some ⟨g, (i + 1) * 6, none⟩) = some A ∧ A.block = g ∧ Hid (∀ j u, (cells (fun k => S (i + 1 + k)) (fun k => L (i + 1 + k)) (fun k => N (i + 1 + k)) (fun k => P (i + 1 + k)) (fun k => V (i + 1 + k)) (n - (i + 1)))[j]? = some u → W.cell? (A.add j) = some u) := by
    by_cases h : cap = i + 1
    · refine ⟨⟨g, 0, none⟩, by simp [h], rfl, hide fun j u hu => ?_⟩
      have := cells_lt hu
      omega
    · exact ⟨⟨g, (i + 1) * 6, none⟩, by simp [h], rfl, hide N2.out⟩
  clear N2
  go_region_held3 (fun _ => True) (trivial) (first
    | (
      refine step_append_own _ rfl (.const (.slice none 0 0)) (.tmp 14) 88 rfl W.heap.size 93 i0 _ 6 80 Try.underlying88 hi0 hz0 hz1 hz2 rfl (by decide) (.slice none 0 0) 0 [] rfl (World.ownsRow_nil _ _ _ _) ⟨g, 0, none⟩ i cap (cells S L N P V i) (by simp [Act.eval, Act.put]) HL1.out N1.out HO1.out (by unfold maxLen; omega) (by omega) (Nat.le_refl _) ?_
      intro v1 w1 hown1 hgrow1
      have hB1 : Below W.heap.size W w1 := (Below.refl _ W).drew.grown hgrow1 (Nat.le_refl _) (fun k hk => by cases hk)
      have p2 : w1.cell? ⟨eb, 2, none⟩ = some (.pointer (some ⟨bb, 0, none⟩)) := (hB1.cell (p := ⟨eb, 2, none⟩) (by show eb < _; omega)).trans e2W
      have p1 : w1.cell? ⟨bb, 1, none⟩ = some (.slice none 0 0) := (hB1.cell (p := ⟨bb, 1, none⟩) (by show bb < _; omega)).trans b1W
      have F1 := hide (And.intro hown1 hB1)
      clear hown1 hB1 hgrow1)
    | (
      refine step_append_own _ rfl (.tmp 15) (.tmp 19) 88 rfl W.heap.size 93 i0 _ 6 80 Try.underlying88 hi0 hz0 hz1 hz2 rfl (by decide) v1 (0 + i) ([] ++ cells S L N P V i) (by simp [Act.eval, Act.put]) F1.out.1 A (n - (i + 1)) (cap - (i + 1)) (cells (fun k => S (i + 1 + k)) (fun k => L (i + 1 + k)) (fun k => N (i + 1 + k)) (fun k => P (i + 1 + k)) (fun k => V (i + 1 + k)) (n - (i + 1))) (by simp [Act.eval, Act.put, hA]) HL2.out (fun j u hu => (F1.out.2.cell (by rw [add_block]; omega)).trans (hAn.out j u hu)) HO2.out (by unfold maxLen; omega) (by omega) F1.out.2.size ?_
      intro v2 w2 hown2 hgrow2
      obtain ⟨ao2, m2, cp2, rfl, hm2⟩ := owns_shape hown2
      have hB2 : Below W.heap.size W w2 := F1.out.2.grown hgrow2 F1.out.2.size (fun k hk => (F1.out.1.lt k hk).1)
      have r2 : w2.cell? ⟨eb, 2, none⟩ = some (.pointer (some ⟨bb, 0, none⟩)) := (hB2.cell (p := ⟨eb, 2, none⟩) (by show eb < _; omega)).trans e2W
      have r1 : w2.cell? ⟨bb, 1, none⟩ = some (.slice none 0 0) := (hB2.cell (p := ⟨bb, 1, none⟩) (by show bb < _; omega)).trans b1W
      have r3 := (hB2.block w.heap.size (by omega)).trans HCW.out
      have r4 : w2.cell? ⟨w.heap.size, 2, none⟩ = some (.pointer (some ⟨bb, 0, none⟩)) := by rw [cell_of_row w2 w.heap.size 2 _ _ _ r3]; rfl
      have r6 : w.heap.size < w2.heap.size := lt_of_heap r3
      have r5 := free_of_heap r3 2
      have F2 := hide (And.intro hown2 (And.intro hB2 (And.intro r3 hm2)))
      clear hown2 hB2 hgrow2 r3 hm2)
    | (go_at_call 48
       refine (content48 eb bb (.slice none 0 0) _ (by assumption) (by assumption)).mono ?_
       rintro e w9 ⟨rfl, rfl⟩))
  have HF := hide (held_of hi hsW HBW.out HH.out.h0 HH.out.t0 F2.out.1 F2.out.2.1 F2.out.2.2.1 F2.out.2.2.2)
  clear F1 F2 HH HRW HBW HCW N1 HO1 HO2 HL1 HL2 hAn
  go_wp2_with fail
  go_ret
  exact ⟨by simp, ⟨_, _, _, HF.out.1⟩, HF.out.2⟩

set_option maxHeartbeats 1000000 in
theorem without31 {eb bb hb t base : Nat} {s : ByteArray} {g n cap : Nat} {S L : Nat → ByteArray} {N : Nat → Option Addr} {P V : Nat → ByteArray} (i : Nat) (w : World) (hi : i < n) (hn : n ≤ 1024) (hh : Held w eb bb hb t s (some ⟨g, 0, none⟩) n cap S L N P V)
    (e1 : w.cell? ⟨eb, 1, none⟩ = some (.int .i64 0)) (b1 : w.cell? ⟨bb, 1, none⟩ = some (.slice none 0 0)) (hrow : w.ownsRow base 93 6 (.slice (some ⟨g, 0, none⟩) n cap) n (cells S L N P V n)) :
    Calls Try.prog 31 #[.pointer (some ⟨eb, 0, none⟩), .int .i64 (i : Int)] w fun e w' => e = .returned (.pointer (some ⟨w.heap.size, 0, none⟩)) ∧
      (∃ bb' ao' cap', Held w' w.heap.size bb' hb t s ao' (n - 1) cap' (fun k => S (dr i k)) (fun k => L (dr i k)) (fun k => N (dr i k)) (fun k => P (dr i k)) (fun k => V (dr i k))) ∧ Below w.heap.size w w' := by
  have H := hide (without43 i w hi hn hh e1 b1 hrow)
  clear hh e1 b1 hrow
  go_enter Try.func31, Try.ntmps31
  go_wp2_with fail
  refine H.out.mono ?_
  rintro e w1 ⟨rfl, hq, hB⟩
  have HQ := hide hq
  have HB := hide hB
  clear hq hB H
  go_wp2_with fail
  go_ret
  exact ⟨by simp, HQ.out, HB.out⟩
end Go.Proofs.Qxb6614379a
