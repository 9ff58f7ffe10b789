import Derived.Test.Qxb6614337aFmtDecode
namespace Go.Proofs.Qxb6614337aFmt
open Go.RowKit Go.Extern.Stop Go.Stop Go.Extern
set_option linter.unusedVariables false

set_option maxHeartbeats 1000000 in
theorem decode_4 (F : Interp) (v : Value) (xs : List Int) (w : World) (hF : F.answers w.tape) (hr : Row w w.heap.size v xs) (hlow : Low w.heap.size v) (hk : 4 = xs.getD 0 0) :
    Calls Tryf.prog 10 #[v] w fun e w' => Ends w xs e w' := by
  obtain ⟨ad, cap, rfl⟩ := hr.len
  have HD : Hid (Dec (w.alloc (.cells #[.slice ad xs.length cap, .bool false] 47)) w.heap.size xs false) := dec_start w ad cap xs hr hlow
  have HG : Hid (Good xs = false) := good_not xs 4 hk (by omega) (by omega)
  have HX := hide hk
  have HF : Hid (F.answers w.tape) := hF
  clear hr hlow hk hF
  go_enter Tryf.func10, Tryf.ntmps10
  go_wp2_with fail
  refine (u8_any w.heap.size 4 xs false _ HX.out HD.out).mono ?_
  rintro e w1 ⟨rfl, hx0, hx1, ho1, ha1⟩
  have hbel1 : Below w.heap.size w w1 := ((Below.refl _ _).alloc (Nat.le_refl _) _).trans (ho1.below (Nat.le_refl _) (by simp))
  obtain ⟨ys, sh, hd1, _⟩ := ha1.open
  have S1 := st_start 4 ys sh hbel1 hd1
  clear HD ho1 ha1 hd1 hbel1 HX
  go_wp2_with fail
  refine (u16_any w.heap.size ys sh _ S1.dec).mono ?_
  rintro e w3 ⟨r3, rfl, ho3, ha3⟩
  obtain ⟨zs3, sh3, hd3, _⟩ := ha3.open
  have S3 := S1.step ho3 hd3
  have hCB := S3.lt
  clear S1 ho3 ha3 hd3
  generalize w1.heap.size = C at *
  go_wp2_with fail
  refine (u64_any w.heap.size zs3 sh3 _ S3.dec).mono ?_
  rintro e w4 ⟨r4, rfl, ho4, ha4⟩
  obtain ⟨zs4, sh4, hd4, _⟩ := ha4.open
  have S4 := S3.step ho4 hd4
  have S5 := (S4.set 1 (by omega) (.int .u16 r3)).set 2 (by omega) (.int .u64 r4)
  obtain ⟨v1, c1⟩ := S4.ctl.cell 1 (by omega)
  have f1 := S4.ctl.free 1
  obtain ⟨v2, c2⟩ := S4.ctl.cell 2 (by omega)
  have f2 := S4.ctl.free 2
  have ck := S4.ctl.kind
  clear S3 ho4 ha4
  obtain ⟨ad4, cap4, c40, c41⟩ := hd4.open
  clear hd4
  cases sh4
  · by_cases hz : zs4.length = 0
    · have hz1 : (zs4.length != 0) = false := by simp [hz]
      clear hz
      go_wp2
      go_ret2
      exact ⟨S5.bel, .inl ⟨C, 4, rfl, S5.ctl.kind, by rw [unhide HG]; rfl⟩⟩
    · have hz1 : ((zs4.length : Int) != 0) = true := bne_iff_ne.2 (by omega)
      clear hz
      go_wp2_with fail
      refine (errorf_C F 4 _ _ (by exact S5.tape HF.out) (by omega) (by omega) ?_ ?_).mono ?_
      · simp
      · rw [World.cell?_alloc_at _ _ _ _ (by simp)]; rfl
      · rintro e w9 ⟨⟨a, rfl⟩, hb9⟩
        go_wp2
        go_ret2
        exact ⟨(S5.bel.alloc S5.bel.size _).trans (hb9.mono (by have := S5.bel.size; simp at this ⊢; omega)), .inr ⟨a, rfl, unhide HG⟩⟩
  · go_wp2_with fail
    refine (errorf_C F 4 _ _ (by exact S5.tape HF.out) (by omega) (by omega) ?_ ?_).mono ?_
    · simp
    · rw [World.cell?_alloc_at _ _ _ _ (by simp)]; rfl
    · rintro e w9 ⟨⟨a, rfl⟩, hb9⟩
      go_wp2
      go_ret2
      exact ⟨(S5.bel.alloc S5.bel.size _).trans (hb9.mono (by have := S5.bel.size; simp at this ⊢; omega)), .inr ⟨a, rfl, unhide HG⟩⟩

theorem St.nilB {w W : World} {C : Nat} {k : Int} {zs : List Int} {sh : Bool} (h : St w W C k zs sh) : St w (W.setCell ⟨w.heap.size, 0, none⟩ (.slice none 0 0)) C k [] sh := by
  refine h.step ((Only.refl _ _).setCell 0 _) ?_
  obtain ⟨v, h1, h2, h3, h4, h5, h6, h7⟩ := h.dec
  exact ⟨_, World.cell?_setCell_same _ _ _ h1, .inl ⟨rfl, rfl⟩, by rw [set_other _ _ _ _ _ (by omega)]; exact h3, by simpa using h4, by simpa using h5, by simpa using h6, Low.nil _⟩

set_option maxHeartbeats 2000000 in
theorem decode_2 (F : Interp) (v : Value) (xs : List Int) (w : World) (hF : F.answers w.tape) (hr : Row w w.heap.size v xs) (hlow : Low w.heap.size v) (hk : 2 = xs.getD 0 0) :
    Calls Tryf.prog 10 #[v] w fun e w' => Ends w xs e w' := by
  obtain ⟨ad, cap, rfl⟩ := hr.len
  have HD : Hid (Dec (w.alloc (.cells #[.slice ad xs.length cap, .bool false] 47)) w.heap.size xs false) := dec_start w ad cap xs hr hlow
  have HG : Hid (Good xs = false) := good_not xs 2 hk (by omega) (by omega)
  have HX := hide hk
  have HF : Hid (F.answers w.tape) := hF
  clear hr hlow hk hF
  go_enter Tryf.func10, Tryf.ntmps10
  go_wp2_with fail
  refine (u8_any w.heap.size 2 xs false _ HX.out HD.out).mono ?_
  rintro e w1 ⟨rfl, hx0, hx1, ho1, ha1⟩
  have hbel1 : Below w.heap.size w w1 := ((Below.refl _ _).alloc (Nat.le_refl _) _).trans (ho1.below (Nat.le_refl _) (by simp))
  obtain ⟨ys, sh, hd1, _⟩ := ha1.open
  have S1 := st_start 2 ys sh hbel1 hd1
  clear HD ho1 ha1 hd1 hbel1 HX
  go_wp2_with fail
  refine (u16_any w.heap.size ys sh _ S1.dec).mono ?_
  rintro e w3 ⟨r3, rfl, ho3, ha3⟩
  obtain ⟨zs3, sh3, hd3, _⟩ := ha3.open
  have S3 := S1.step ho3 hd3
  have hCB := S3.lt
  clear S1 ho3 ha3 hd3
  generalize w1.heap.size = C at *
  go_wp2_with fail
  refine (u64_any w.heap.size zs3 sh3 _ S3.dec).mono ?_
  rintro e w4 ⟨r4, rfl, ho4, ha4⟩
  obtain ⟨zs4, sh4, hd4, _⟩ := ha4.open
  have S4 := S3.step ho4 hd4
  have S5 := (S4.set 1 (by omega) (.int .u16 r3)).set 2 (by omega) (.int .u64 r4)
  obtain ⟨v1, c1⟩ := S4.ctl.cell 1 (by omega)
  have f1 := S4.ctl.free 1
  obtain ⟨v2, c2⟩ := S4.ctl.cell 2 (by omega)
  have f2 := S4.ctl.free 2
  have ck := S4.ctl.kind
  clear S3 ho4 ha4
  clear hd4
  go_wp2_with fail
  refine (u32_any w.heap.size zs4 sh4 _ S5.dec).mono ?_
  rintro e w6 ⟨r6, rfl, ho6, ha6⟩
  obtain ⟨zs6, sh6, hd6, _⟩ := ha6.open
  have S6 := S5.step ho6 hd6
  clear ho6 ha6 hd6 S5 S4 c1 f1 c2 f2 ck
  go_wp2_with fail
  refine (u32_any w.heap.size zs6 sh6 _ S6.dec).mono ?_
  rintro e w7 ⟨r7, rfl, ho7, ha7⟩
  obtain ⟨zs7, sh7, hd7, _⟩ := ha7.open
  have S7 := S6.step ho7 hd7
  obtain ⟨ad7, cap7, c70, c71⟩ := hd7.open
  have S8 := (((S7.set 3 (by omega) (.int .u32 r6)).set 4 (by omega) (.int .u32 r7)).set 5 (by omega) (.slice ad7 zs7.length cap7)).nilB
  obtain ⟨v3, c3⟩ := S7.ctl.cell 3 (by omega)
  have f3 := S7.ctl.free 3
  obtain ⟨v4, c4⟩ := S7.ctl.cell 4 (by omega)
  have f4 := S7.ctl.free 4
  obtain ⟨v5, c5⟩ := S7.ctl.cell 5 (by omega)
  have f5 := S7.ctl.free 5
  have ck := S7.ctl.kind
  have fB : w7.frozen? ⟨w.heap.size, 0, none⟩ = false := by obtain ⟨_, _, _, _, h, _⟩ := hd7; exact h
  clear S6 ho7 ha7 hd7
  cases sh7
  · go_wp2
    go_ret2
    exact ⟨S8.bel, .inl ⟨C, 2, rfl, S8.ctl.kind, by rw [unhide HG]; rfl⟩⟩
  · go_wp2_with fail
    refine (errorf_C F 2 _ _ (by exact S8.tape HF.out) (by omega) (by omega) ?_ ?_).mono ?_
    · simp
    · rw [World.cell?_alloc_at _ _ _ _ (by simp)]; rfl
    · rintro e w9 ⟨⟨a, rfl⟩, hb9⟩
      go_wp2
      go_ret2
      exact ⟨(S8.bel.alloc S8.bel.size _).trans (hb9.mono (by have := S8.bel.size; simp at this ⊢; omega)), .inr ⟨a, rfl, unhide HG⟩⟩
end Go.Proofs.Qxb6614337aFmt
