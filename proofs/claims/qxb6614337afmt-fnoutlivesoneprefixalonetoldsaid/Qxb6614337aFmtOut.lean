import Derived.Test.Qxb6614337aFmtDecodeC
namespace Go.Proofs.Qxb6614337aFmt
open Go.RowKit Go.Extern.Stop Go.Stop Go.Extern
set_option linter.unusedVariables false

theorem Row.up {w w' : World} {b : Nat} {v : Value} {xs : List Int} (h : Row w b v xs) (hb : Below w.heap.size w w') (b' : Nat) (hb' : w.heap.size ≤ b') : Row w' b' v xs ∧ Low b' v := by
  rcases h with ⟨rfl, rfl⟩ | ⟨g, off, cap, rfl, h2, h3, h4, h5, h6, h7⟩
  · exact ⟨.inl ⟨rfl, rfl⟩, Low.nil _⟩
  · exact ⟨.inr ⟨g, off, cap, rfl, h2, h3, by omega, Nat.lt_of_lt_of_le h5 hb.size, fun i hi => (hb.cell (p := ⟨g, off + i, none⟩) h5).trans (h6 i hi), h7⟩, Low.some (by omega)⟩

set_option maxHeartbeats 400000 in
theorem outlives_app (n : Int) (ad : Option Addr) (len cap : Nat) (w : World) :
    Calls Tryf.prog 6 #[.int .u64 n, .slice ad len cap, .bool false] w fun e w' => e = .returned (.bool true) ∧ Below w.heap.size w w' := by
  go_enter Tryf.func6, Tryf.ntmps6
  go_wp2
  go_ret
  exact ⟨rfl, (Below.refl _ _).alloc (Nat.le_refl _) _⟩

set_option maxHeartbeats 1000000 in
theorem outlives_ctl (F : Interp) (n : Int) (v : Value) (xs : List Int) (w : World) (hF : F.answers w.tape) (hr : Row w w.heap.size v xs) :
    Calls Tryf.prog 6 #[.int .u64 n, v, .bool true] w fun e w' => e = .returned (.bool (Good xs)) ∧ Below w.heap.size w w' := by
  obtain ⟨ad, cap, rfl⟩ := hr.len
  have HR := hide hr
  have HF : Hid (F.answers w.tape) := hF
  clear hr hF
  go_enter Tryf.func6, Tryf.ntmps6
  go_wp2_with (first | (go_at_call 9; go_in) | (go_at_call 10; fail))
  have hb0 : Below w.heap.size w (w.alloc (.cells #[.int .u64 n, .slice ad xs.length cap, .bool true] 29)) := (Below.refl _ _).alloc (Nat.le_refl _) _
  have hup := HR.out.up hb0 (w.alloc (.cells #[.int .u64 n, .slice ad xs.length cap, .bool true] 29)).heap.size (by simp)
  refine (decode_any F _ xs _ (by exact HF.out) hup.1 hup.2).mono ?_
  rintro e w1 ⟨hb1, h⟩
  have hb2 : Below w.heap.size w w1 := hb0.trans (hb1.mono (by simp))
  clear hb0 hup hb1 HR HF
  rcases h with ⟨c, kind, rfl, hck, hg⟩ | ⟨a, rfl, hg⟩
  · cases h1 : (kind == 1)
    · cases h5 : (kind == 5)
      · have HG : Hid (Good xs = false) := hide (by rw [← hg, h1, h5]; rfl)
        clear hg
        go_wp2
        go_ret
        exact ⟨by rw [unhide HG]; simp, hb2⟩
      · have HG : Hid (Good xs = true) := hide (by rw [← hg, h1, h5]; rfl)
        clear hg
        go_wp2
        go_ret
        exact ⟨by rw [unhide HG]; simp, hb2⟩
    · have HG : Hid (Good xs = true) := hide (by rw [← hg, h1]; rfl)
      clear hg
      go_wp2
      go_ret
      exact ⟨by rw [unhide HG]; simp, hb2⟩
  · have HG : Hid (Good xs = false) := hide hg
    clear hg
    go_wp2
    go_ret
    exact ⟨by rw [unhide HG]; simp, hb2⟩

theorem Row.byte {w : World} {b : Nat} {v : Value} {xs : List Int} (h : Row w b v xs) (hl : 1 ≤ xs.length) : ∃ g off cap, v = .slice (some ⟨g, off, none⟩) xs.length cap ∧ w.cell? ⟨g, off, none⟩ = some (.int .u8 (xs.getD 0 0)) := by
  rcases h with ⟨rfl, rfl⟩ | ⟨g, off, cap, rfl, h2, h3, h4, h5, h6, h7⟩
  · simp at hl
  · exact ⟨g, off, cap, rfl, by simpa using h6 0 (by omega)⟩

set_option maxHeartbeats 1000000 in
theorem control_any (v : Value) (xs : List Int) (w : World) (hr : Row w w.heap.size v xs) (hm : xs.length ≤ 1048576) :
    Calls Tryf.prog 7 #[v] w fun e w' => e = .returned (.bool (Good xs)) ∧ w' = w := by
  by_cases h0 : 1 ≤ xs.length
  · obtain ⟨g, off, cap, rfl, hc⟩ := hr.byte h0
    have hp : (0 : Int) < (xs.length : Int) := by omega
    have hgd : Good xs = ((((xs.length : Int) == 5) && (xs.getD 0 0 == 1)) || (((xs.length : Int) == 3) && (xs.getD 0 0 == 5))) := by
      have e5 : (xs.length == 5) = ((xs.length : Int) == 5) := by rw [Bool.eq_iff_iff]; simp; omega
      have e3 : (xs.length == 3) = ((xs.length : Int) == 3) := by rw [Bool.eq_iff_iff]; simp; omega
      rw [Good, e5, e3]
    have HG := hide hgd
    clear hgd hr
    generalize xs.getD 0 0 = x at *
    cases h5 : ((xs.length : Int) == 5)
    · cases h3 : ((xs.length : Int) == 3)
      · go_enter Tryf.func7, Tryf.ntmps7
        go_wp2
        go_ret
        exact ⟨by rw [unhide HG, h5, h3]; simp, rfl⟩
      · cases hx : (x == 5)
        all_goals
          go_enter Tryf.func7, Tryf.ntmps7
          go_wp2
          go_ret
          exact ⟨by rw [unhide HG, h5, h3, hx]; simp, rfl⟩
    · have h3 : ((xs.length : Int) == 3) = false := by simp at h5 ⊢; omega
      cases hx : (x == 1)
      all_goals
        go_enter Tryf.func7, Tryf.ntmps7
        go_wp2
        go_ret
        exact ⟨by rw [unhide HG, h5, h3, hx]; simp, rfl⟩
  · obtain rfl : xs = [] := List.eq_nil_of_length_eq_zero (by omega)
    obtain ⟨ad, cap, rfl⟩ := hr.len
    have HG : Hid (Good [] = false) := rfl
    clear hr
    go_enter Tryf.func7, Tryf.ntmps7
    go_wp2
    go_ret
    exact ⟨by rw [unhide HG]; simp, rfl⟩
end Go.Proofs.Qxb6614337aFmt
