import Derived.Test.Qxb6614337aFmtUints
import Derived.Deep.RegionWith
namespace Go.Proofs.Qxb6614337aFmt
open Go.RowKit
set_option linter.unusedVariables false

theorem Dec.drew {w : World} {b : Nat} {xs : List Int} {sh : Bool} (h : Dec w b xs sh) : Dec w.drew b xs sh := h
theorem Dec.drewN {w : World} {b : Nat} {xs : List Int} {sh : Bool} (h : Dec w b xs sh) (n : Nat) : Dec (w.drewN n) b xs sh := h

/-- What is left behind a read of n bytes. -/
def After (w' : World) (b n : Nat) (xs : List Int) (sh : Bool) : Prop :=
  (n ≤ xs.length ∧ Dec w' b (xs.drop n) sh) ∨ (xs.length < n ∧ Dec w' b [] true)
theorem After.other {w w' : World} {b n : Nat} {xs : List Int} {sh : Bool} (h : After w b n xs sh) (hb : Below (b + 1) w w') : After w' b n xs sh := by
  rcases h with ⟨h1, h2⟩ | ⟨h1, h2⟩
  · exact .inl ⟨h1, h2.other hb⟩
  · exact .inr ⟨h1, h2.other hb⟩

theorem After.lt {w : World} {b n : Nat} {xs : List Int} {sh : Bool} (h : After w b n xs sh) : b + 1 ≤ w.heap.size := by
  rcases h with ⟨_, v, _, _, _, _, _, h, _⟩ | ⟨_, v, _, _, _, _, _, h, _⟩ <;> exact h

theorem bytes_pos (b n : Nat) (xs : List Int) (sh : Bool) (w : World) (hn : n ≤ 255) (hn1 : 1 ≤ n) (hd : Dec w b xs sh) :
    Calls Tryf.prog 15 #[.pointer (some ⟨b, 0, none⟩), .int .i64 (n : Int)] w fun e w' => ∃ (g off cap : Nat) (ys : List Int), e = .returned (.slice (some ⟨g, off, none⟩) n cap) ∧ n ≤ cap ∧ g < w'.heap.size ∧
      (∀ i, i < n → w'.cell? ⟨g, off + i, none⟩ = some (.int .u8 (ys.getD i 0))) ∧ (∀ i, 0 ≤ ys.getD i 0 ∧ ys.getD i 0 ≤ 255) ∧ (n = 1 → ys.getD 0 0 = xs.getD 0 0) ∧ Only b w w' ∧ After w' b n xs sh := by
  refine (bytes_any b n xs sh w hn hd).mono ?_
  rintro e w' ⟨v, ys, rfl, hr, hl, ho, hc⟩
  rcases hr with ⟨rfl, rfl⟩ | ⟨g, off, cap, rfl, h1, h2, h3, h4, h5, h6⟩
  · simp at hl; omega
  · refine ⟨g, off, cap, ys, by rw [hl], by omega, h4, fun i hi => h5 i (by omega), h6, ?_, ho, ?_⟩
    · rintro rfl
      rcases hc with ⟨_, e, _⟩ | ⟨e, e2, _⟩
      · rw [e]
        simp [List.getD]
      · obtain rfl : xs = [] := List.eq_nil_of_length_eq_zero (by omega)
        rw [e2]
        rfl
    · rcases hc with ⟨e, _, d⟩ | ⟨e, _, d⟩
      · exact .inl ⟨e, d⟩
      · exact .inr ⟨e, d⟩

set_option maxHeartbeats 400000 in
theorem u8_any (b : Nat) (x : Int) (xs : List Int) (sh : Bool) (w : World) (hx : x = xs.getD 0 0) (hd : Dec w b xs sh) :
    Calls Tryf.prog 11 #[.pointer (some ⟨b, 0, none⟩)] w fun e w' => e = .returned (.int .u8 x) ∧ 0 ≤ x ∧ x ≤ 255 ∧ Only b w w' ∧ After w' b 1 xs sh := by
  have hd' : Hid (Dec w b xs sh) := hd
  clear hd
  have HX : Hid (x = xs.getD 0 0) := hx
  clear hx
  go_enter Tryf.func11, Tryf.ntmps11
  go_wp2_with fail
  refine (bytes_pos b 1 xs sh w (by omega) (by omega) hd'.out).mono ?_
  rintro e w' ⟨g, off, cap, ys, rfl, h1, h2, h3, h4, h5, h6, h7⟩
  have hc0 := h3 0 (by omega)
  rw [Nat.add_zero] at hc0
  have h40 := h4 0
  rw [h5 rfl, ← HX.out] at hc0 h40
  clear h3 h4 h5
  go_wp2
  go_ret
  exact ⟨rfl, h40.1, h40.2, h6, h7⟩

theorem Only.undrew {b : Nat} {u v : World} (h : Only b u.drew v) : Only b u v := ⟨h.os, h.tape, h.output, h.size, h.block⟩

set_option maxHeartbeats 1000000 in
theorem u16_any (b : Nat) (xs : List Int) (sh : Bool) (w : World) (hd : Dec w b xs sh) :
    Calls Tryf.prog 13 #[.pointer (some ⟨b, 0, none⟩)] w fun e w' => ∃ x, e = .returned (.int .u16 x) ∧ Only b w w' ∧ After w' b 2 xs sh := by
  have H : Hid (Dec w b xs sh) := hd
  clear hd
  go_enter Tryf.func13, Tryf.ntmps13
  go_wp2
  go_region_with (first
    | (go_at_call 15; refine (bytes_pos b 2 xs sh _ (by omega) (by omega) ?_).mono ?_; exact H.out; rintro e w1 ⟨g, off, cap, ys, rfl, h1, h2, h3, h4, h5, h6, h7⟩; have c0 := h3 0 (by omega); have c1 := h3 1 (by omega); clear h3 h4 h5)
    | (go_at_call 18; refine (u16_of _ _ _ _ _ _ (by assumption) (by assumption) (by assumption)).mono ?_; rintro e w2 ⟨⟨x, rfl⟩, hb2⟩))
  all_goals
    go_wp2
    go_ret
    exact ⟨x, rfl, h6.undrew.trans (Only.of_below hb2), h7.other (hb2.mono h7.lt)⟩

set_option maxHeartbeats 1000000 in
theorem u32_any (b : Nat) (xs : List Int) (sh : Bool) (w : World) (hd : Dec w b xs sh) :
    Calls Tryf.prog 12 #[.pointer (some ⟨b, 0, none⟩)] w fun e w' => ∃ x, e = .returned (.int .u32 x) ∧ Only b w w' ∧ After w' b 4 xs sh := by
  have H : Hid (Dec w b xs sh) := hd
  clear hd
  go_enter Tryf.func12, Tryf.ntmps12
  go_wp2
  go_region_with (first
    | (go_at_call 15; refine (bytes_pos b 4 xs sh _ (by omega) (by omega) ?_).mono ?_; exact H.out; rintro e w1 ⟨g, off, cap, ys, rfl, h1, h2, h3, h4, h5, h6, h7⟩; have c0 := h3 0 (by omega); have c1 := h3 1 (by omega); have c2 := h3 2 (by omega); have c3 := h3 3 (by omega); clear h3 h4 h5)
    | (go_at_call 17; refine (u32_of _ _ _ _ _ _ _ _ (by assumption) (by assumption) (by assumption) (by assumption) (by assumption)).mono ?_; rintro e w2 ⟨⟨x, rfl⟩, hb2⟩))
  all_goals
    go_wp2
    go_ret
    exact ⟨x, rfl, h6.undrew.trans (Only.of_below hb2), h7.other (hb2.mono h7.lt)⟩

set_option maxHeartbeats 1000000 in
theorem u64_any (b : Nat) (xs : List Int) (sh : Bool) (w : World) (hd : Dec w b xs sh) :
    Calls Tryf.prog 14 #[.pointer (some ⟨b, 0, none⟩)] w fun e w' => ∃ x, e = .returned (.int .u64 x) ∧ Only b w w' ∧ After w' b 8 xs sh := by
  have H : Hid (Dec w b xs sh) := hd
  clear hd
  go_enter Tryf.func14, Tryf.ntmps14
  go_wp2
  go_region_with (first
    | (go_at_call 15; refine (bytes_pos b 8 xs sh _ (by omega) (by omega) ?_).mono ?_; exact H.out; rintro e w1 ⟨g, off, cap, ys, rfl, h1, h2, h3, h4, h5, h6, h7⟩; have c0 := h3 0 (by omega); have c1 := h3 1 (by omega); have c2 := h3 2 (by omega); have c3 := h3 3 (by omega); have c4 := h3 4 (by omega); have c5 := h3 5 (by omega); have c6 := h3 6 (by omega); have c7 := h3 7 (by omega); clear h3 h4 h5)
    | (go_at_call 19; refine (u64_of _ _ _ _ _ _ _ _ _ _ _ _ (by assumption) (by assumption) (by assumption) (by assumption) (by assumption) (by assumption) (by assumption) (by assumption) (by assumption)).mono ?_; rintro e w2 ⟨⟨x, rfl⟩, hb2⟩))
  all_goals
    go_wp2
    go_ret
    exact ⟨x, rfl, h6.undrew.trans (Only.of_below hb2), h7.other (hb2.mono h7.lt)⟩

end Go.Proofs.Qxb6614337aFmt
