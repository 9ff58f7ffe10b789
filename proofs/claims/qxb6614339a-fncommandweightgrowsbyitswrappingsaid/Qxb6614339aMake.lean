import Derived.Test.Qxb6614339aNest
namespace Go.Proofs.Qxb6614339a
open Go.RowKit
set_option linter.unusedVariables false

/-- The depths that came in: a slice of len numbers whose cells lie below the world's end; each is an int. -/
def Depths (w : World) (a : Option Addr) (len : Nat) (ds : Nat → Int) : Prop :=
  len = 0 ∨ ∃ b off, a = some ⟨b, off, none⟩ ∧ b < w.heap.size ∧ ∀ i, i < len → w.cell? ⟨b, off + i, none⟩ = some (.int .i64 (ds i)) ∧ -9223372036854775808 ≤ ds i ∧ ds i ≤ 9223372036854775807

/-- What zzDepthsTooBig answers. -/
def Sized (len : Nat) (ds : Nat → Int) (w : World) (e : Ending) (w' : World) : Prop := ∃ b : Bool, e = .returned (.bool b) ∧ w = w' ∧ (b = false → len ≤ 65536 ∧ ∀ i, i < len → ds i ≤ 65536)
theorem sized_yes {len : Nat} {ds : Nat → Int} {w w' : World} {e : Ending} (he : e = .returned (.bool true)) (hw : w = w') : Sized len ds w e w' := ⟨true, he, hw, fun h => by cases h⟩
theorem sized_no {len : Nat} {ds : Nat → Int} {w w' : World} {e : Ending} (he : e = .returned (.bool false)) (hw : w = w') (h : len ≤ 65536 ∧ ∀ i, i < len → ds i ≤ 65536) : Sized len ds w e w' := ⟨false, he, hw, fun _ => h⟩

set_option maxHeartbeats 1000000 in
theorem tooBig_any (s : ByteArray) (a : Option Addr) (len cap : Nat) (ds : Nat → Int) (w : World) (hs : s.size ≤ 1048576) (hl : len ≤ 1048576) (h : Depths w a len ds) :
    Calls Try.prog 6 #[.string s, .slice a len cap] w fun e w' => Sized len ds w e w' := by
  by_cases h1 : (65536 : Int) < s.size
  · have hd : decide ((65536 : Int) < s.size) = true := by simpa using h1
    go_enter Try.func6, Try.ntmps6
    go_wp2
    go_ret
    exact sized_yes (by simp) rfl
  have hd1 : decide ((65536 : Int) < s.size) = false := by simpa using h1
  by_cases h2 : (65536 : Int) < len
  · have hd : decide ((65536 : Int) < len) = true := by simpa using h2
    go_enter Try.func6, Try.ntmps6
    go_wp2
    go_ret
    exact sized_yes (by simp) rfl
  have hd2 : decide ((65536 : Int) < len) = false := by simpa using h2
  have hl2 : (len : Int) ≤ 65536 := by omega
  have HD := hide h
  clear h h1 h2
  go_enter Try.func6, Try.ntmps6
  go_wp2_with fail
  go_loop [5, 18] (fun sm i => ∃ (j : Nat) (t : Int), j ≤ len ∧ i = .int .i64 (j : Int) ∧ sm = .int .i64 t ∧ 0 ≤ t ∧ t ≤ 65536 ∧ Hid (∀ i, i < j → ds i ≤ 65536)) (fun _ i => len - (intOf i).toNat)
  case atStart => exact ⟨0, 0, Nat.zero_le _, rfl, rfl, by omega, by omega, hide (fun i hi => by omega)⟩
  case round =>
    obtain ⟨j, t, hj, rfl, rfl, ht0, ht1, HJ⟩ := hrel
    by_cases hlt : (j : Int) < len
    · rcases HD.out with h | ⟨b, off, rfl, hb, hc⟩
      · omega
      · obtain ⟨hcj, hlo, hhi⟩ := hc j (by omega)
        have hstep : ds j ≤ 65536 → ∀ i, i < j + 1 → ds i ≤ 65536 := fun h i hi => by
          by_cases e : i = j
          · subst e; exact h
          · exact HJ.out i (by omega)
        have HS := hide hstep
        clear hc hstep
        generalize ds j = dj at hcj hlo hhi HS
        by_cases c1 : 65536 < dj
        · go_wp2
          go_ret
          exact sized_yes (by simp) rfl
        · by_cases c2 : 0 < dj
          · by_cases c3 : 65536 < t + dj
            · go_wp2
              go_ret
              exact sized_yes (by simp) rfl
            · go_wp2
              go_round
              case rel => exact ⟨j + 1, t + dj, by omega, by go_num, rfl, by omega, by omega, hide (HS.out (by omega))⟩
              case measure => simp [intOf]; omega
          · go_wp2
            go_round
            case rel => exact ⟨j + 1, t, by omega, by go_num, rfl, by omega, by omega, hide (HS.out (by omega))⟩
            case measure => simp [intOf]; omega
    · obtain rfl : j = len := by omega
      go_wp2
      go_ret
      exact sized_no (by simp) rfl ⟨by omega, HJ.out⟩
end Go.Proofs.Qxb6614339a
