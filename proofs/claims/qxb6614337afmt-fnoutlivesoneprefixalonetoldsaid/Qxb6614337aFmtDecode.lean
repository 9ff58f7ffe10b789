import Derived.Test.Qxb6614337aFmtReads
namespace Go.Proofs.Qxb6614337aFmt
open Go.RowKit Go.Extern.Stop Go.Stop Go.Extern
set_option linter.unusedVariables false

/-- A whole request or a whole suspicion. -/
def Good (xs : List Int) : Bool := (xs.length == 5 && xs.getD 0 0 == 1) || (xs.length == 3 && xs.getD 0 0 == 5)

theorem hide {p : Prop} (h : p) : Hid p := h
theorem unhide {p : Prop} (h : Hid p) : p := h

theorem dec_start (w : World) (ad : Option Addr) (cap : Nat) (xs : List Int) (hr : Row w w.heap.size (.slice ad xs.length cap) xs) (hlow : Low w.heap.size (.slice ad xs.length cap)) :
    Dec (w.alloc (.cells #[.slice ad xs.length cap, .bool false] 47)) w.heap.size xs false := by
  refine ⟨_, ?_, hr.keep ((Only.refl _ _).alloc _), ?_, ?_, ?_, by simp, hlow⟩
  · rw [World.cell?_alloc_at _ _ _ _ rfl]; rfl
  · rw [World.cell?_alloc_at _ _ _ _ rfl]; rfl
  · rw [World.frozen?_alloc_at _ _ _ _ rfl]
  · rw [World.frozen?_alloc_at _ _ _ _ rfl]

/-- The decoder's two cells, as the walk reads them. -/
theorem Dec.open {w : World} {b : Nat} {xs : List Int} {sh : Bool} (h : Dec w b xs sh) : ∃ ad cap, w.cell? ⟨b, 0, none⟩ = some (.slice ad xs.length cap) ∧ w.cell? ⟨b, 1, none⟩ = some (.bool sh) := by
  obtain ⟨v, h1, h2, h3, _⟩ := h
  obtain ⟨ad, cap, rfl⟩ := h2.len
  exact ⟨ad, cap, h1, h3⟩

/-- A read of n bytes in numbers: what was left, the mark; what is left then, the mark then. -/
def Took (n : Nat) (l : Nat) (sh : Bool) (l' : Nat) (sh' : Bool) : Prop := (n ≤ l ∧ l' = l - n ∧ sh' = sh) ∨ (l < n ∧ l' = 0 ∧ sh' = true)

theorem After.open {w : World} {b n : Nat} {xs : List Int} {sh : Bool} (h : After w b n xs sh) : ∃ zs sh', Dec w b zs sh' ∧ Took n xs.length sh zs.length sh' := by
  rcases h with ⟨h1, h2⟩ | ⟨h1, h2⟩
  · exact ⟨_, _, h2, .inl ⟨h1, by simp, rfl⟩⟩
  · exact ⟨_, _, h2, .inr ⟨h1, rfl, rfl⟩⟩

theorem good_of (xs : List Int) (x : Int) (m ny nz : Nat) (sh sh3 : Bool) (hx : x = xs.getD 0 0) (h1 : Took 1 xs.length false ny sh) (h3 : Took m ny sh nz sh3) (hk : (x = 1 ∧ m = 4) ∨ (x = 5 ∧ m = 2)) :
    Good xs = (!sh3 && nz == 0) := by
  have key : Good xs = true ↔ sh3 = false ∧ nz = 0 := by
    unfold Good
    rw [← hx]
    simp only [Bool.or_eq_true, Bool.and_eq_true, beq_iff_eq]
    rcases h1 with ⟨a1, b1, rfl⟩ | ⟨a1, b1, rfl⟩ <;> rcases h3 with ⟨a3, b3, rfl⟩ | ⟨a3, b3, rfl⟩ <;> simp only [true_and, Bool.true_eq_false, false_and, iff_false] <;> omega
  cases hg : Good xs <;> cases sh3 <;> simp_all
theorem good_not (xs : List Int) (x : Int) (hx : x = xs.getD 0 0) (n1 : x ≠ 1) (n5 : x ≠ 5) : Good xs = false := by
  unfold Good
  rw [← hx]
  simp [n1, n5]

/-- The control message at block C: 41 cells, none frozen, its kind k. -/
def Ctl (w : World) (C : Nat) (k : Int) : Prop := ∃ cs : Array Value, w.heap[C]? = some (.cells cs 45 (0, 0)) ∧ cs.size = 41 ∧ cs[0]? = some (.int .u8 k)

theorem Ctl.lt {w : World} {C : Nat} {k : Int} (h : Ctl w C k) : C < w.heap.size := by
  obtain ⟨cs, h1, _⟩ := h
  exact (Array.getElem?_eq_some_iff.1 h1).1
theorem Ctl.kind {w : World} {C : Nat} {k : Int} (h : Ctl w C k) : w.cell? ⟨C, 0, none⟩ = some (.int .u8 k) := by
  obtain ⟨cs, h1, h2, h3⟩ := h
  simpa [World.cell?, h1] using h3
theorem Ctl.cell {w : World} {C : Nat} {k : Int} (h : Ctl w C k) (i : Nat) (hi : i < 41) : ∃ v, w.cell? ⟨C, i, none⟩ = some v := by
  obtain ⟨cs, h1, h2, h3⟩ := h
  exact ⟨cs[i]'(by omega), by simp [World.cell?, h1, h2, hi]⟩
theorem Ctl.free {w : World} {C : Nat} {k : Int} (h : Ctl w C k) (i : Nat) : w.frozen? ⟨C, i, none⟩ = false := by
  obtain ⟨cs, h1, h2, h3⟩ := h
  simp [World.frozen?, h1]
theorem Ctl.block {w w' : World} {C : Nat} {k : Int} (h : Ctl w C k) (e : w'.heap[C]? = w.heap[C]?) : Ctl w' C k := by
  obtain ⟨cs, h1, h2, h3⟩ := h
  exact ⟨cs, e.trans h1, h2, h3⟩
theorem Ctl.set {w : World} {C : Nat} {k : Int} (h : Ctl w C k) (i : Nat) (hi : i ≠ 0) (v : Value) : Ctl (w.setCell ⟨C, i, none⟩ v) C k := by
  obtain ⟨cs, h1, h2, h3⟩ := h
  refine ⟨cs.setIfInBounds i v, ?_, by simpa using h2, ?_⟩
  · rw [setCell_eq_setRow w C i cs 45 (0, 0) v h1]
    exact setRow_heap w C cs _ 45 (0, 0) h1
  · rw [Array.getElem?_setIfInBounds_ne hi]; exact h3

/-- Where decodeControl stands: the call began in w; the decoder at w.heap.size, the message at C. -/
structure St (w W : World) (C : Nat) (k : Int) (zs : List Int) (sh : Bool) : Prop where
  bel : Below w.heap.size w W
  dec : Dec W w.heap.size zs sh
  ctl : Ctl W C k
  lt : w.heap.size < C

theorem St.step {w W W' : World} {C : Nat} {k : Int} {zs zs' : List Int} {sh sh' : Bool} (h : St w W C k zs sh) (o : Only w.heap.size W W') (d : Dec W' w.heap.size zs' sh') : St w W' C k zs' sh' :=
  ⟨h.bel.trans (o.below (Nat.le_refl _) h.bel.size), d, h.ctl.block (o.block C h.ctl.lt (fun e => by have := h.lt; cases e; omega)), h.lt⟩
theorem St.set {w W : World} {C : Nat} {k : Int} {zs : List Int} {sh : Bool} (h : St w W C k zs sh) (i : Nat) (hi : i ≠ 0) (v : Value) : St w (W.setCell ⟨C, i, none⟩ v) C k zs sh :=
  ⟨h.bel.setCell (by have := h.lt; show _ ≤ C; omega) v, h.dec.other ((Below.refl _ _).setCell (by have := h.lt; show _ ≤ C; omega) v), h.ctl.set i hi v, h.lt⟩
theorem St.tape {w W : World} {C : Nat} {k : Int} {zs : List Int} {sh : Bool} (h : St w W C k zs sh) {F : Interp} (hF : F.answers w.tape) : F.answers W.tape := by
  rw [h.bel.tape]; exact hF

def ctlBlock (x : Int) : Obj := .cells #[.int .u8 x, .int .u16 0, .int .u64 0, .int .u32 0, .int .u32 0, .slice none 0 0, .string ⟨#[]⟩,
  .int .u8 0, .int .u8 0, .int .u8 0, .int .u8 0, .int .u8 0, .int .u8 0, .int .u8 0, .int .u8 0, .int .u8 0, .int .u8 0, .int .u8 0, .int .u8 0, .int .u8 0, .int .u8 0, .int .u8 0, .int .u8 0,
  .int .u8 0, .int .u8 0, .int .u8 0, .int .u8 0, .int .u8 0, .int .u8 0, .int .u8 0, .int .u8 0, .int .u8 0, .int .u8 0, .int .u8 0, .int .u8 0, .int .u8 0, .int .u8 0, .int .u8 0, .int .u8 0, .int .u16 0, .int .u32 0] 45

theorem st_start {w w1 : World} (x : Int) (ys : List Int) (sh : Bool) (hb : Below w.heap.size w w1) (hd : Dec w1 w.heap.size ys sh) : St w (w1.alloc (ctlBlock x)) w1.heap.size x ys sh := by
  have hlt : w.heap.size < w1.heap.size := by obtain ⟨v, _, _, _, _, _, h, _⟩ := hd; exact h
  refine ⟨hb.alloc hb.size _, hd.other ((Below.refl _ _).alloc hlt _), ?_, hlt⟩
  exact ⟨_, heap_alloc_new w1 _, rfl, rfl⟩

/-- What decodeControl comes to. -/
def Ends (w : World) (xs : List Int) (e : Ending) (w' : World) : Prop := Below w.heap.size w w' ∧
      ((∃ c kind, e = .returned (.tuple #[.pointer (some ⟨c, 0, none⟩), .nilIface]) ∧ w'.cell? ⟨c, 0, none⟩ = some (.int .u8 kind) ∧ ((kind == 1) || (kind == 5)) = Good xs) ∨
       (∃ a, e = .returned (.tuple #[.pointer none, .iface 64 (.pointer (some a))]) ∧ Good xs = false))

set_option maxHeartbeats 1000000 in
theorem decode_1 (F : Interp) (v : Value) (xs : List Int) (w : World) (hF : F.answers w.tape) (hr : Row w w.heap.size v xs) (hlow : Low w.heap.size v) (hk : 1 = xs.getD 0 0) :
    Calls Tryf.prog 10 #[v] w fun e w' => Ends w xs e w' := by
  obtain ⟨ad, cap, rfl⟩ := hr.len
  have HD : Hid (Dec (w.alloc (.cells #[.slice ad xs.length cap, .bool false] 47)) w.heap.size xs false) := dec_start w ad cap xs hr hlow
  have HX := hide hk
  have HF : Hid (F.answers w.tape) := hF
  clear hr hlow hk hF
  go_enter Tryf.func10, Tryf.ntmps10
  go_wp2_with fail
  refine (u8_any w.heap.size 1 xs false _ HX.out HD.out).mono ?_
  rintro e w1 ⟨rfl, hx0, hx1, ho1, ha1⟩
  have hbel1 : Below w.heap.size w w1 := ((Below.refl _ _).alloc (Nat.le_refl _) _).trans (ho1.below (Nat.le_refl _) (by simp))
  obtain ⟨ys, sh, hd1, ht1⟩ := ha1.open
  have HT1 := hide ht1
  have S1 := st_start 1 ys sh hbel1 hd1
  clear HD ho1 ha1 hd1 ht1 hbel1
  go_wp2_with fail
  refine (u32_any w.heap.size ys sh _ S1.dec).mono ?_
  rintro e w3 ⟨r, rfl, ho3, ha3⟩
  obtain ⟨zs, sh3, hd3, ht3⟩ := ha3.open
  have hgood := good_of xs 1 4 ys.length zs.length sh sh3 HX.out HT1.out ht3 (by omega)
  have S3 := S1.step ho3 hd3
  have S4 := S3.set 40 (by omega) (.int .u32 r)
  obtain ⟨ad3, cap3, c30, c31⟩ := hd3.open
  obtain ⟨v40, c40⟩ := S3.ctl.cell 40 (by omega)
  have f40 := S3.ctl.free 40
  have ck := S3.ctl.kind
  have hCB := S3.lt
  clear S1 ho3 ha3 hd3 ht3 HT1 HX
  generalize w1.heap.size = C at *
  cases sh3
  · by_cases hz : zs.length = 0
    · have hz1 : (zs.length != 0) = false := by simp [hz]
      rw [hz] at hgood
      have HG := hide hgood
      clear hgood hz
      go_wp2
      go_ret2
      exact ⟨S4.bel, .inl ⟨C, 1, rfl, S4.ctl.kind, by rw [unhide HG]; rfl⟩⟩
    · have hz1 : ((zs.length : Int) != 0) = true := bne_iff_ne.2 (by omega)
      have HG : Hid (Good xs = false) := hide (by rw [hgood]; simp [hz])
      clear hgood hz
      go_wp2_with fail
      refine (errorf_C F 1 _ _ (by exact S4.tape HF.out) (by omega) (by omega) ?_ ?_).mono ?_
      · simp
      · rw [World.cell?_alloc_at _ _ _ _ (by simp)]; rfl
      · rintro e w5 ⟨⟨a, rfl⟩, hb5⟩
        go_wp2
        go_ret2
        exact ⟨(S4.bel.alloc S4.bel.size _).trans (hb5.mono (by have := S4.bel.size; simp at this ⊢; omega)), .inr ⟨a, rfl, unhide HG⟩⟩
  · have HG : Hid (Good xs = false) := hide (by rw [hgood]; simp)
    clear hgood
    go_wp2_with fail
    refine (errorf_C F 1 _ _ (by exact S4.tape HF.out) (by omega) (by omega) ?_ ?_).mono ?_
    · simp
    · rw [World.cell?_alloc_at _ _ _ _ (by simp)]; rfl
    · rintro e w5 ⟨⟨a, rfl⟩, hb5⟩
      go_wp2
      go_ret2
      exact ⟨(S4.bel.alloc S4.bel.size _).trans (hb5.mono (by have := S4.bel.size; simp at this ⊢; omega)), .inr ⟨a, rfl, unhide HG⟩⟩

set_option maxHeartbeats 1000000 in
theorem decode_5 (F : Interp) (v : Value) (xs : List Int) (w : World) (hF : F.answers w.tape) (hr : Row w w.heap.size v xs) (hlow : Low w.heap.size v) (hk : 5 = xs.getD 0 0) :
    Calls Tryf.prog 10 #[v] w fun e w' => Ends w xs e w' := by
  obtain ⟨ad, cap, rfl⟩ := hr.len
  have HD : Hid (Dec (w.alloc (.cells #[.slice ad xs.length cap, .bool false] 47)) w.heap.size xs false) := dec_start w ad cap xs hr hlow
  have HX := hide hk
  have HF : Hid (F.answers w.tape) := hF
  clear hr hlow hk hF
  go_enter Tryf.func10, Tryf.ntmps10
  go_wp2_with fail
  refine (u8_any w.heap.size 5 xs false _ HX.out HD.out).mono ?_
  rintro e w1 ⟨rfl, hx0, hx1, ho1, ha1⟩
  have hbel1 : Below w.heap.size w w1 := ((Below.refl _ _).alloc (Nat.le_refl _) _).trans (ho1.below (Nat.le_refl _) (by simp))
  obtain ⟨ys, sh, hd1, ht1⟩ := ha1.open
  have HT1 := hide ht1
  have S1 := st_start 5 ys sh hbel1 hd1
  clear HD ho1 ha1 hd1 ht1 hbel1
  go_wp2_with fail
  refine (u16_any w.heap.size ys sh _ S1.dec).mono ?_
  rintro e w3 ⟨r, rfl, ho3, ha3⟩
  obtain ⟨zs, sh3, hd3, ht3⟩ := ha3.open
  have hgood := good_of xs 5 2 ys.length zs.length sh sh3 HX.out HT1.out ht3 (by omega)
  have S3 := S1.step ho3 hd3
  have S4 := S3.set 39 (by omega) (.int .u16 r)
  obtain ⟨ad3, cap3, c30, c31⟩ := hd3.open
  obtain ⟨v40, c40⟩ := S3.ctl.cell 39 (by omega)
  have f40 := S3.ctl.free 39
  have ck := S3.ctl.kind
  have hCB := S3.lt
  clear S1 ho3 ha3 hd3 ht3 HT1 HX
  generalize w1.heap.size = C at *
  cases sh3
  · by_cases hz : zs.length = 0
    · have hz1 : (zs.length != 0) = false := by simp [hz]
      rw [hz] at hgood
      have HG := hide hgood
      clear hgood hz
      go_wp2
      go_ret2
      exact ⟨S4.bel, .inl ⟨C, 5, rfl, S4.ctl.kind, by rw [unhide HG]; rfl⟩⟩
    · have hz1 : ((zs.length : Int) != 0) = true := bne_iff_ne.2 (by omega)
      have HG : Hid (Good xs = false) := hide (by rw [hgood]; simp [hz])
      clear hgood hz
      go_wp2_with fail
      refine (errorf_C F 5 _ _ (by exact S4.tape HF.out) (by omega) (by omega) ?_ ?_).mono ?_
      · simp
      · rw [World.cell?_alloc_at _ _ _ _ (by simp)]; rfl
      · rintro e w5 ⟨⟨a, rfl⟩, hb5⟩
        go_wp2
        go_ret2
        exact ⟨(S4.bel.alloc S4.bel.size _).trans (hb5.mono (by have := S4.bel.size; simp at this ⊢; omega)), .inr ⟨a, rfl, unhide HG⟩⟩
  · have HG : Hid (Good xs = false) := hide (by rw [hgood]; simp)
    clear hgood
    go_wp2_with fail
    refine (errorf_C F 5 _ _ (by exact S4.tape HF.out) (by omega) (by omega) ?_ ?_).mono ?_
    · simp
    · rw [World.cell?_alloc_at _ _ _ _ (by simp)]; rfl
    · rintro e w5 ⟨⟨a, rfl⟩, hb5⟩
      go_wp2
      go_ret2
      exact ⟨(S4.bel.alloc S4.bel.size _).trans (hb5.mono (by have := S4.bel.size; simp at this ⊢; omega)), .inr ⟨a, rfl, unhide HG⟩⟩

set_option maxHeartbeats 1000000 in
theorem decode_other (F : Interp) (v : Value) (x : Int) (xs : List Int) (w : World) (hF : F.answers w.tape) (hr : Row w w.heap.size v xs) (hlow : Low w.heap.size v) (hk : x = xs.getD 0 0)
    (n1 : (x == 1) = false) (n2 : (x == 2) = false) (n3 : (x == 3) = false) (n4 : (x == 4) = false) (n5 : (x == 5) = false) :
    Calls Tryf.prog 10 #[v] w fun e w' => Ends w xs e w' := by
  have HG : Hid (Good xs = false) := good_not xs x hk (by simpa using n1) (by simpa using n5)
  obtain ⟨ad, cap, rfl⟩ := hr.len
  have HD : Hid (Dec (w.alloc (.cells #[.slice ad xs.length cap, .bool false] 47)) w.heap.size xs false) := dec_start w ad cap xs hr hlow
  have HX := hide hk
  have HF : Hid (F.answers w.tape) := hF
  clear hr hlow hk hF
  go_enter Tryf.func10, Tryf.ntmps10
  go_wp2_with fail
  refine (u8_any w.heap.size x xs false _ HX.out HD.out).mono ?_
  rintro e w1 ⟨rfl, hx0, hx1, ho1, ha1⟩
  have hbel1 : Below w.heap.size w w1 := ((Below.refl _ _).alloc (Nat.le_refl _) _).trans (ho1.below (Nat.le_refl _) (by simp))
  obtain ⟨ys, sh, hd1, ht1⟩ := ha1.open
  have HT1 := hide ht1
  have S1 := st_start x ys sh hbel1 hd1
  clear HD ho1 ha1 hd1 ht1 hbel1
  go_wp2_with fail
  refine (errorf_B F x _ _ (by exact S1.tape HF.out) (by omega) (by omega) ?_ ?_).mono ?_
  · simp
  · rw [World.cell?_alloc_at _ _ _ _ (by simp)]; rfl
  · rintro e w5 ⟨⟨a, rfl⟩, hb5⟩
    go_wp2
    go_ret2
    exact ⟨(S1.bel.alloc S1.bel.size _).trans (hb5.mono (by have := S1.bel.size; simp at this ⊢; omega)), .inr ⟨a, rfl, unhide HG⟩⟩

end Go.Proofs.Qxb6614337aFmt
