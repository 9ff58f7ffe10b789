import Derived.Test.Qxb6614379aNames
namespace Go.Proofs.Qxb6614379a
open Go.RowKit
set_option linter.unusedVariables false

/-- Is the byte at j a colon? -/
def colAt (s : ByteArray) (j : Nat) : Bool := if h : j < s.size then s[j] == 58 else false
theorem colAt_in (s : ByteArray) (j : Nat) (h : j < s.size) : ((s[j].toNat : Int) == 58) = colAt s j := by
  rw [colAt, dif_pos h, Bool.eq_iff_iff]
  simp only [beq_iff_eq]
  constructor
  · intro e; exact UInt8.toNat_inj.1 (by simp; omega)
  · intro e; rw [e]; rfl
theorem colAt_out (s : ByteArray) (j : Nat) (h : s.size ≤ j) : colAt s j = false := by rw [colAt, dif_neg (by omega)]

/-- What zzQName has seen behind k bytes: c colons, the last at t. -/
def Scan (s : ByteArray) (k : Nat) (c t : Int) : Prop :=
  -1 ≤ t ∧ t < k ∧ 0 ≤ c ∧ c ≤ k ∧ ((c = 0 ∧ ∀ j, j < k → colAt s j = false) ∨ (c = 1 ∧ ∃ p : Nat, p < k ∧ t = p ∧ ∀ j, j < k → (colAt s j = true ↔ j = p)) ∨ 2 ≤ c)

theorem scan_start (s : ByteArray) : Scan s 0 0 (-1) := ⟨by omega, by omega, by omega, by omega, .inl ⟨rfl, fun j hj => by omega⟩⟩
theorem scan_yes {s : ByteArray} {k : Nat} {c t : Int} (h : Scan s k c t) (hk : colAt s k = true) : Scan s (k + 1) (c + 1) k := by
  obtain ⟨h1, h2, h3, h4, h⟩ := h
  refine ⟨by omega, by omega, by omega, by omega, ?_⟩
  rcases h with ⟨rfl, h⟩ | ⟨rfl, _⟩ | h
  · refine .inr (.inl ⟨by omega, k, by omega, rfl, fun j hj => ?_⟩)
    by_cases e : j = k
    · subst e; simp [hk]
    · rw [h j (by omega)]; simp [e]
  · exact .inr (.inr (by omega))
  · exact .inr (.inr (by omega))
theorem scan_no {s : ByteArray} {k : Nat} {c t : Int} (h : Scan s k c t) (hk : colAt s k = false) : Scan s (k + 1) c t := by
  obtain ⟨h1, h2, h3, h4, h⟩ := h
  refine ⟨by omega, by omega, by omega, by omega, ?_⟩
  rcases h with ⟨rfl, h⟩ | ⟨rfl, p, hp, hpt, h⟩ | h
  · refine .inl ⟨rfl, fun j hj => ?_⟩
    by_cases e : j = k
    · subst e; exact hk
    · exact h j (by omega)
  · refine .inr (.inl ⟨rfl, p, by omega, hpt, fun j hj => ?_⟩)
    by_cases e : j = k
    · subst e; rw [hk]; simp; omega
    · exact h j (by omega)
  · exact .inr (.inr h)

/-- A name as the reader keeps one. -/
def Fine (s : ByteArray) (la : Int) : Prop := (la = 0 ∧ ∀ j, colAt s j = false) ∨ ∃ p : Nat, la = (p : Int) + 1 ∧ 1 ≤ p ∧ p < s.size ∧ ∀ j, colAt s j = true ↔ j = p

def QOK (s : ByteArray) (la : Int) (w : World) (e : Ending) (w' : World) : Prop := ∃ b : Bool, e = .returned (.bool b) ∧ w = w' ∧ (b = true → Fine s la)
theorem qok_no {s : ByteArray} {la : Int} {w w' : World} {e : Ending} (he : e = .returned (.bool false)) (hw : w = w') : QOK s la w e w' := ⟨false, he, hw, fun h => by cases h⟩
theorem qok_yes {s : ByteArray} {la : Int} {w w' : World} {e : Ending} (he : e = .returned (.bool true)) (hw : w = w') (h : Fine s la) : QOK s la w e w' := ⟨true, he, hw, fun _ => h⟩

theorem fine_zero {s : ByteArray} {t : Int} (h : Scan s s.size 0 t) : Fine s 0 := by
  obtain ⟨_, _, _, _, h⟩ := h
  rcases h with ⟨_, h⟩ | ⟨h, _⟩ | h
  · refine .inl ⟨rfl, fun j => ?_⟩
    by_cases hj : j < s.size
    · exact h j hj
    · exact colAt_out s j (by omega)
  · omega
  · omega
theorem fine_one {s : ByteArray} {t la : Int} (h : Scan s s.size 1 t) (h2 : 2 ≤ la) (h3 : t = la - 1) : Fine s la := by
  obtain ⟨_, _, _, _, h⟩ := h
  rcases h with ⟨h, _⟩ | ⟨_, p, hp, hpt, h⟩ | h
  · omega
  · refine .inr ⟨p, by omega, by omega, hp, fun j => ?_⟩
    by_cases hj : j < s.size
    · exact h j hj
    · rw [colAt_out s j (by omega)]; simp; omega
  · omega

set_option maxHeartbeats 1000000 in
theorem qname_any (s : ByteArray) (la : Int) (w : World) (hs : s.size ≤ 65536) (hl0 : -9223372036854775808 ≤ la) (hl1 : la ≤ 9223372036854775807) :
    Calls Try.prog 20 #[.string s, .int .i64 la] w fun e w' => QOK s la w e w' := by
  have hs' : (s.size : Int) ≤ 65536 := by omega
  go_enter Try.func20, Try.ntmps20
  go_wp2
  go_loop [5, 6, 7] (fun c t i => ∃ (k : Nat) (cv tv : Int), k ≤ s.size ∧ i = .int .i64 (k : Int) ∧ c = .int .i64 cv ∧ t = .int .i64 tv ∧ Hid (Scan s k cv tv)) (fun _ _ i => s.size - (intOf i).toNat)
  case atStart => exact ⟨0, 0, -1, Nat.zero_le _, rfl, rfl, rfl, hide (scan_start s)⟩
  case round =>
    obtain ⟨k, cv, tv, hk, rfl, rfl, rfl, HS⟩ := hrel
    have hc0 := HS.out.2.2.1
    have hc1 := HS.out.2.2.2.1
    have ht0 := HS.out.1
    have ht1 := HS.out.2.1
    by_cases hlt : k < s.size
    · have hcol := colAt_in s k hlt
      cases hb : colAt s k
      · rw [hb] at hcol
        have HN := hide (scan_no HS.out hb)
        clear hb
        go_wp2
        go_round
        case rel => exact ⟨k + 1, cv, tv, by omega, by go_num, rfl, rfl, HN⟩
        case measure => simp [intOf]; omega
      · rw [hb] at hcol
        have HN := hide (scan_yes HS.out hb)
        clear hb
        go_wp2
        go_round
        case rel => exact ⟨k + 1, cv + 1, k, by omega, by go_num, rfl, rfl, HN⟩
        case measure => simp [intOf]; omega
    · obtain rfl : k = s.size := by omega
      by_cases l0 : la = 0
      · subst l0
        by_cases c0 : cv = 0
        · subst c0
          have HF := hide (fine_zero HS.out)
          go_wp2
          go_ret
          exact qok_yes (by simp) rfl HF.out
        · have hc : (cv == 0) = false := beq_eq_false_iff_ne.2 c0
          go_wp2
          go_ret
          exact qok_no (by simp) rfl
      · have hl : (la == 0) = false := beq_eq_false_iff_ne.2 l0
        by_cases c1 : cv = 1
        · subst c1
          by_cases l2 : 2 ≤ la
          · have hd2 : decide (2 ≤ la) = true := by simpa using l2
            by_cases ht : tv = la - 1
            · have HF := hide (fine_one HS.out l2 ht)
              subst ht
              go_wp2
              go_ret
              exact qok_yes (by simp) rfl HF.out
            · have htb : (tv == la - 1) = false := beq_eq_false_iff_ne.2 ht
              go_wp2
              go_ret
              exact qok_no (by simp) rfl
          · have hd2 : decide (2 ≤ la) = false := by simpa using l2
            go_wp2
            go_ret
            exact qok_no (by simp) rfl
        · have hc : (cv == 1) = false := beq_eq_false_iff_ne.2 c1
          go_wp2
          go_ret
          exact qok_no (by simp) rfl
end Go.Proofs.Qxb6614379a
