import Derived.Test.Qxb6614337aFmtDecodeB
import Derived.Laws.CopyOwn
namespace Go.Proofs.Qxb6614337aFmt
open Go.RowKit Go.Extern.Stop Go.Stop Go.Extern
set_option linter.unusedVariables false

theorem row_list {w : World} {g off : Nat} {ys : List Int} (h : ∀ i, i < ys.length → w.cell? ⟨g, off + i, none⟩ = some (.int .u8 (ys.getD i 0))) :
    ∀ j v, (ys.map (Value.int .u8))[j]? = some v → w.cell? ((⟨g, off, none⟩ : Addr).add j) = some v := by
  intro j v hj
  obtain ⟨hl, rfl⟩ := List.getElem?_eq_some_iff.1 hj
  simp at hl
  have e : (⟨g, off, none⟩ : Addr).add j = ⟨g, off + j, none⟩ := by unfold Addr.add; split <;> simp_all
  rw [e, h j hl]
  simp [hl]

/-- 'vote(b)': some string. -/
theorem conv_row {w : World} {b : Nat} {v : Value} {ys : List Int} (h : Row w b v ys) : ∃ s : ByteArray, (convert 23 41 v).run Tryf.prog w = .ok (.string s) w := by
  rcases h with ⟨rfl, rfl⟩ | ⟨g, off, cap, rfl, h1, h2, h3, h4, h5, h6⟩
  · refine ⟨ByteArray.empty, ?_⟩
    rw [run_convert_bytes_string w 23 41 5 _ _ _ Tryf.underlying23 Tryf.underlying5 Tryf.underlying41]
    rfl
  · have hl := run_loadCells_list (P := Tryf.prog) w ⟨g, off, none⟩ (ys.map (Value.int .u8)) (row_list h5)
    rw [List.length_map] at hl
    exact ⟨_, by rw [run_convert_bytes_string w 23 41 5 _ _ _ Tryf.underlying23 Tryf.underlying5 Tryf.underlying41]; exact run_bytesToString w _ _ _ ys hl⟩

/-- 'copy(c.digest[:], b)' at 32 bytes: the message's kind stays. -/
theorem copy_row {w : World} {C g off cap : Nat} {k : Int} (f : Nat → Int) (hc : Ctl w C k) (h5 : ∀ i, i < 32 → w.cell? ⟨g, off + i, none⟩ = some (.int .u8 (f i))) :
    ∃ cs, (∀ ty, (Builtin.copy_ #[23, 23] ty #[.slice (some ⟨C, 7, none⟩) 32 32, .slice (some ⟨g, off, none⟩) 32 cap]).run Tryf.prog w = .ok (goInt 32) (w.setRow C cs)) ∧ Ctl (w.setRow C cs) C k ∧ (w.setRow C cs).cell? ⟨C, 6, none⟩ = w.cell? ⟨C, 6, none⟩ := by
  obtain ⟨cur, h1, h2, h3⟩ := hc
  obtain ⟨vs, hvs⟩ : ∃ vs : List Value, vs = (List.range 32).map (fun i => Value.int .u8 (f i)) := ⟨_, rfl⟩
  have hl : vs.length = 32 := by rw [hvs]; simp
  have hone : ∀ v ∈ vs, v.oneCell' = true := by
    intro v hv
    rw [hvs] at hv
    obtain ⟨n, _, rfl⟩ := List.mem_map.1 hv
    rfl
  have hsrc : ∀ j v, vs[j]? = some v → w.cell? ((⟨g, off, none⟩ : Addr).add j) = some v := by
    intro j v hj
    obtain ⟨hjl, rfl⟩ := List.getElem?_eq_some_iff.1 hj
    have e : (⟨g, off, none⟩ : Addr).add j = ⟨g, off + j, none⟩ := by unfold Addr.add; split <;> simp_all
    rw [e, h5 j (by omega)]
    simp [hvs]
  refine ⟨(cur.toList.take 7 ++ vs ++ cur.toList.drop (7 + 32)).toArray, fun ty => ?_, ⟨_, setRow_heap w C cur _ 45 (0, 0) h1, ?_, ?_⟩, ?_⟩
  · have h := run_copy_row Tryf.prog w 23 23 ty 5 C 7 32 32 ⟨g, off, none⟩ 32 cap cur 45 vs Tryf.underlying23 (by kernel_rfl) h1 (by simp [hl]) hsrc (by omega) hone
    simp only [hl] at h
    exact h
  · simp [hl, h2]
  · have : 0 < cur.size := by omega
    simp only [List.getElem?_toArray]
    rw [List.append_assoc, List.getElem?_append_left (by simp; omega), List.getElem?_take_of_lt (by omega)]
    simpa using h3
  · rw [cell_setRow_same w C 6 cur _ 45 (0, 0) h1]
    have : 6 < cur.size := by omega
    simp only [List.getElem?_toArray]
    rw [List.append_assoc, List.getElem?_append_left (by simp; omega), List.getElem?_take_of_lt (by omega)]
    simp [World.cell?, h1]

theorem St.row {w W : World} {C : Nat} {k : Int} {zs : List Int} {sh : Bool} (h : St w W C k zs sh) (cs : Array Value) (hc : Ctl (W.setRow C cs) C k) : St w (W.setRow C cs) C k zs sh :=
  ⟨below_setRow h.bel (by have := h.lt; omega) cs, h.dec.other (below_setRow (Below.refl _ _) (by have := h.lt; omega) cs), hc, h.lt⟩

set_option maxHeartbeats 2000000 in
theorem decode_3 (F : Interp) (v : Value) (xs : List Int) (w : World) (hF : F.answers w.tape) (hr : Row w w.heap.size v xs) (hlow : Low w.heap.size v) (hk : 3 = xs.getD 0 0) :
    Calls Tryf.prog 10 #[v] w fun e w' => Ends w xs e w' := by
  obtain ⟨ad, cap, rfl⟩ := hr.len
  have HD : Hid (Dec (w.alloc (.cells #[.slice ad xs.length cap, .bool false] 47)) w.heap.size xs false) := dec_start w ad cap xs hr hlow
  have HG : Hid (Good xs = false) := good_not xs 3 hk (by omega) (by omega)
  have HX := hide hk
  have HF : Hid (F.answers w.tape) := hF
  clear hr hlow hk hF
  go_enter Tryf.func10, Tryf.ntmps10
  go_wp2_with fail
  refine (u8_any w.heap.size 3 xs false _ HX.out HD.out).mono ?_
  rintro e w1 ⟨rfl, hx0, hx1, ho1, ha1⟩
  have hbel1 : Below w.heap.size w w1 := ((Below.refl _ _).alloc (Nat.le_refl _) _).trans (ho1.below (Nat.le_refl _) (by simp))
  obtain ⟨ys, sh, hd1, _⟩ := ha1.open
  have S1 := st_start 3 ys sh hbel1 hd1
  clear HD ho1 ha1 hd1 hbel1 HX
  go_wp2_with fail
  refine (u16_any w.heap.size ys sh _ S1.dec).mono ?_
  rintro e w3 ⟨r3, rfl, ho3, ha3⟩
  obtain ⟨zs3, sh3, hd3, _⟩ := ha3.open
  have S3 := S1.step ho3 hd3
  have hCB := S3.lt
  clear S1 ho3 ha3 hd3
  generalize w1.heap.size = C at *
  go_wp2_with fail
  refine (u64_any w.heap.size zs3 sh3 _ S3.dec).mono ?_
  rintro e w4 ⟨r4, rfl, ho4, ha4⟩
  obtain ⟨zs4, sh4, hd4, _⟩ := ha4.open
  have S4 := S3.step ho4 hd4
  have S5 := (S4.set 1 (by omega) (.int .u16 r3)).set 2 (by omega) (.int .u64 r4)
  obtain ⟨v1, c1⟩ := S4.ctl.cell 1 (by omega)
  have f1 := S4.ctl.free 1
  obtain ⟨v2, c2⟩ := S4.ctl.cell 2 (by omega)
  have f2 := S4.ctl.free 2
  have ck := S4.ctl.kind
  clear S3 ho4 ha4
  clear hd4
  go_wp2_with fail
  obtain ⟨x6, hx6⟩ : ∃ x, x = zs4.getD 0 0 := ⟨_, rfl⟩
  refine (u8_any w.heap.size x6 zs4 sh4 _ hx6 S5.dec).mono ?_
  rintro e w6 ⟨rfl, hx60, hx61, ho6, ha6⟩
  obtain ⟨zs6, sh6, hd6, _⟩ := ha6.open
  have S6 := S5.step ho6 hd6
  clear ho6 ha6 hd6 S5 S4 c1 f1 c2 f2 ck hx6
  obtain ⟨n6, rfl⟩ := Int.eq_ofNat_of_zero_le hx60
  go_wp2_with fail
  refine (bytes_any w.heap.size n6 zs6 sh6 _ (by omega) S6.dec).mono ?_
  rintro e w7 ⟨v7, ys7, rfl, hr7, hl7, ho7, hd7⟩
  obtain ⟨zs7, sh7, hdd7⟩ : ∃ zs sh, Dec w7 w.heap.size zs sh := by
    rcases hd7 with ⟨_, _, h⟩ | ⟨_, _, h⟩
    · exact ⟨_, _, h⟩
    · exact ⟨_, _, h⟩
  have S7 := S6.step ho7 hdd7
  obtain ⟨s7, hconv⟩ := conv_row hr7
  have S8 := S7.set 6 (by omega) (.string s7)
  obtain ⟨u6, cu6⟩ := S7.ctl.cell 6 (by omega)
  have fu6 := S7.ctl.free 6
  clear hr7 hl7 ho7 hd7 hdd7 S6
  go_wp2_with fail
  go_region_with (go_at_call 15; refine (bytes_pos w.heap.size 32 zs7 sh7 _ (by omega) (by omega) ?_).mono ?_; exact S8.dec; rintro e w9 ⟨g9, off9, cap9, ys9, rfl, h91, h92, h93, h94, h95, h96, h97⟩; obtain ⟨zs9, sh9, hd9, _⟩ := h97.open; have S9 := S8.step h96.undrew hd9; have c69 : w9.cell? ⟨C, 6, none⟩ = some (.string s7) := (h96.cell S8.ctl.lt (by omega)).trans (World.cell?_setCell_same _ _ _ cu6); obtain ⟨cs9, hcp9, hct9, h69⟩ := copy_row (cap := cap9) (fun i => ys9.getD i 0) S9.ctl h93; clear h93 h94 h95 h96 h97)
  have S10 := S9.row cs9 hct9
  have c6 : (w9.setRow C cs9).cell? ⟨C, 6, none⟩ = some (.string s7) := h69.trans c69
  have ck := S10.ctl.kind
  obtain ⟨ad9, cap9', cB0, cB1⟩ := S10.dec.open
  clear hcp9 hct9 h69 c69 S9 hd9 S8 S7 cu6 fu6 hconv h91 h92
  generalize w9.setRow C cs9 = w10 at *
  have hv : ((s7.toList == [121, 101, 115]) = true ∨ ((s7.toList == [121, 101, 115]) = false ∧ (s7.toList == [110, 111]) = true) ∨ ((s7.toList == [121, 101, 115]) = false ∧ (s7.toList == [110, 111]) = false ∧ (s7.toList == [110, 101, 117, 116, 114, 97, 108]) = true) ∨
      ((s7.toList == [121, 101, 115]) = false ∧ (s7.toList == [110, 111]) = false ∧ (s7.toList == [110, 101, 117, 116, 114, 97, 108]) = false ∧ (s7.toList == [116, 111, 111, 45, 108, 97, 114, 103, 101]) = true)) ∨
      ((s7.toList == [121, 101, 115]) = false ∧ (s7.toList == [110, 111]) = false ∧ (s7.toList == [110, 101, 117, 116, 114, 97, 108]) = false ∧ (s7.toList == [116, 111, 111, 45, 108, 97, 114, 103, 101]) = false) := by
    generalize (s7.toList == [121, 101, 115]) = b1
    generalize (s7.toList == [110, 111]) = b2
    generalize (s7.toList == [110, 101, 117, 116, 114, 97, 108]) = b3
    generalize (s7.toList == [116, 111, 111, 45, 108, 97, 114, 103, 101]) = b4
    revert b1 b2 b3 b4
    decide
  rcases hv with hv | ⟨t1, t2, t3, t4⟩
  · have hz : sh9 = true ∨ (sh9 = false ∧ (zs9.length != 0) = false) ∨ (sh9 = false ∧ ((zs9.length : Int) != 0) = true) := by
      cases sh9
      · by_cases h : zs9.length = 0
        · exact .inr (.inl ⟨rfl, by simp [h]⟩)
        · exact .inr (.inr ⟨rfl, bne_iff_ne.2 (by omega)⟩)
      · exact .inl rfl
    rcases hz with rfl | ⟨rfl, hz⟩ | ⟨rfl, hz⟩
    · rcases hv with t1 | ⟨t1, t2⟩ | ⟨t1, t2, t3⟩ | ⟨t1, t2, t3, t4⟩
      all_goals
        go_wp2_with fail
        refine (errorf_C F 3 _ _ (by exact S10.tape HF.out) (by omega) (by omega) ?_ ?_).mono ?_
        · simp
        · rw [World.cell?_alloc_at _ _ _ _ (by simp)]; rfl
        · rintro e w12 ⟨⟨a, rfl⟩, hb12⟩
          go_wp2
          go_ret2
          exact ⟨(S10.bel.alloc S10.bel.size _).trans (hb12.mono (by have := S10.bel.size; simp at this ⊢; omega)), .inr ⟨a, rfl, unhide HG⟩⟩
    · rcases hv with t1 | ⟨t1, t2⟩ | ⟨t1, t2, t3⟩ | ⟨t1, t2, t3, t4⟩
      all_goals
        go_wp2_with fail
        go_ret2
        exact ⟨S10.bel, .inl ⟨C, 3, rfl, S10.ctl.kind, by rw [unhide HG]; rfl⟩⟩
    · rcases hv with t1 | ⟨t1, t2⟩ | ⟨t1, t2, t3⟩ | ⟨t1, t2, t3, t4⟩
      all_goals
        go_wp2_with fail
        refine (errorf_C F 3 _ _ (by exact S10.tape HF.out) (by omega) (by omega) ?_ ?_).mono ?_
        · simp
        · rw [World.cell?_alloc_at _ _ _ _ (by simp)]; rfl
        · rintro e w12 ⟨⟨a, rfl⟩, hb12⟩
          go_wp2
          go_ret2
          exact ⟨(S10.bel.alloc S10.bel.size _).trans (hb12.mono (by have := S10.bel.size; simp at this ⊢; omega)), .inr ⟨a, rfl, unhide HG⟩⟩
  · go_wp2_with fail
    refine (errorf_A F s7 _ _ (by exact S10.tape HF.out) ?_).mono ?_
    · rw [World.cell?_alloc_at _ _ _ _ (by simp)]; rfl
    · rintro e w12 ⟨⟨a, rfl⟩, hb12⟩
      go_wp2
      go_ret2
      exact ⟨(S10.bel.alloc S10.bel.size _).trans (hb12.mono (by have := S10.bel.size; simp at this ⊢; omega)), .inr ⟨a, rfl, unhide HG⟩⟩

/-- decodeControl, whatever the payload. -/
theorem decode_any (F : Interp) (v : Value) (xs : List Int) (w : World) (hF : F.answers w.tape) (hr : Row w w.heap.size v xs) (hlow : Low w.heap.size v) :
    Calls Tryf.prog 10 #[v] w fun e w' => Ends w xs e w' := by
  by_cases h1 : 1 = xs.getD 0 0
  · exact decode_1 F v xs w hF hr hlow h1
  by_cases h2 : 2 = xs.getD 0 0
  · exact decode_2 F v xs w hF hr hlow h2
  by_cases h3 : 3 = xs.getD 0 0
  · exact decode_3 F v xs w hF hr hlow h3
  by_cases h4 : 4 = xs.getD 0 0
  · exact decode_4 F v xs w hF hr hlow h4
  by_cases h5 : 5 = xs.getD 0 0
  · exact decode_5 F v xs w hF hr hlow h5
  exact decode_other F v (xs.getD 0 0) xs w hF hr hlow rfl (beq_eq_false_iff_ne.2 (Ne.symm h1)) (beq_eq_false_iff_ne.2 (Ne.symm h2)) (beq_eq_false_iff_ne.2 (Ne.symm h3)) (beq_eq_false_iff_ne.2 (Ne.symm h4)) (beq_eq_false_iff_ne.2 (Ne.symm h5))
end Go.Proofs.Qxb6614337aFmt
