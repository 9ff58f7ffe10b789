import Derived.Test.Qxb6614339aWeigh
namespace Go.Proofs.Qxb6614339a
open Go.RowKit
set_option linter.unusedVariables false
attribute [local go_sem] ta35_51 ta35_35 ta45_51 ta45_35 ta45_45 ta51_51

/-- The greatest of b and of the first n weights, each within an argument. -/
def best (b : Int) (ks : Nat → Int) : Nat → Int
  | 0 => b
  | n + 1 => if best b ks n < wth 4 (ks n) then wth 4 (ks n) else best b ks n

def isCall (s : ByteArray) : Bool := (s.toList == [105, 110, 99, 108, 117, 100, 101]) || (s.toList == [116, 112, 108])
def baseOf (s : ByteArray) : Int := if isCall s then 0 else -1

theorem baseOf_bd (s : ByteArray) : -1 ≤ baseOf s ∧ baseOf s ≤ 0 := by unfold baseOf; split <;> omega
theorem wth_bd {o k M : Int} (h0 : 0 ≤ o) (h1 : -1 ≤ k) (h2 : k ≤ M) (hM : 0 ≤ M) : -1 ≤ wth o k ∧ wth o k ≤ o + M := by unfold wth; split <;> omega
theorem best_bd {b M : Int} {ks : Nat → Int} (hM : 0 ≤ M) (hb : -1 ≤ b ∧ b ≤ 0) : ∀ n, (∀ i, i < n → -1 ≤ ks i ∧ ks i ≤ M) → -1 ≤ best b ks n ∧ best b ks n ≤ 4 + M
  | 0, _ => by unfold best; omega
  | n + 1, h => by
    have ih := best_bd hM hb n (fun i hi => h i (by omega))
    have hk := h n (by omega)
    have hw := wth_bd (o := 4) (by omega) hk.1 hk.2 hM
    unfold best
    split <;> omega

theorem best_yes {b : Int} {ks : Nat → Int} {j : Nat} (h : best b ks j < wth 4 (ks j)) : best b ks (j + 1) = wth 4 (ks j) := by rw [best, if_pos h]
theorem best_no {b : Int} {ks : Nat → Int} {j : Nat} (h : ¬ best b ks j < wth 4 (ks j)) : best b ks (j + 1) = best b ks j := by rw [best, if_neg h]

set_option maxHeartbeats 1000000 in
theorem cmd_ident (m g ib cap n : Nat) (s : ByteArray) (vs : Nat → Value) (ks : Nat → Int) (w : World) (hn : n ≤ 1000000) (hcap : n + 1 ≤ cap) (hcm : cap ≤ maxLen)
    (hm : w.cell? ⟨m, 3, none⟩ = some (.slice (some ⟨g, 0, none⟩) (n + 1) cap)) (h0 : w.cell? ⟨g, 0, none⟩ = some (.iface 51 (.pointer (some ⟨ib, 0, none⟩)))) (hs : w.cell? ⟨ib, 3, none⟩ = some (.string s))
    (hv : ∀ i, i < n → w.cell? ⟨g, i + 1, none⟩ = some (vs i)) (hg : ∀ i, i < n → Gives 18 (vs i) w (ks i)) (hk : ∀ i, i < n → -1 ≤ ks i ∧ ks i ≤ 900000) :
    Gives 16 (.pointer (some ⟨m, 0, none⟩)) w (best (baseOf s) ks n) := by
  have HB := hide (fun j hj => best_bd (M := 900000) (by omega) (baseOf_bd s) j (fun i hi => hk i (Nat.lt_of_lt_of_le hi hj)) : ∀ j, j ≤ n → -1 ≤ best (baseOf s) ks j ∧ best (baseOf s) ks j ≤ 4 + 900000)
  have HV := hide hv
  have HG := hide hg
  have HK := hide hk
  clear hv hg hk
  unfold maxLen at hcm
  have hp : (0 : Int) < (n : Int) + 1 := by omega
  have hc1 : (1 : Int) ≤ (n : Int) + 1 := by omega
  have hc2 : (1 : Int) ≤ (cap : Int) := by omega
  unfold Gives
  have hcase : ((s.toList == [105, 110, 99, 108, 117, 100, 101]) = true ∧ baseOf s = 0) ∨ ((s.toList == [105, 110, 99, 108, 117, 100, 101]) = false ∧ (s.toList == [116, 112, 108]) = true ∧ baseOf s = 0) ∨ ((s.toList == [105, 110, 99, 108, 117, 100, 101]) = false ∧ (s.toList == [116, 112, 108]) = false ∧ baseOf s = -1) := by
    unfold baseOf isCall
    cases (s.toList == [105, 110, 99, 108, 117, 100, 101]) <;> cases (s.toList == [116, 112, 108]) <;> simp
  by_cases h1 : cap = 1
  · obtain rfl : n = 0 := by omega
    subst h1
    have hb0 : Hid (best (baseOf s) ks 0 = baseOf s) := hide rfl
    rcases hcase with ⟨t1, T⟩ | ⟨t1, t2, T⟩ | ⟨t1, t2, T⟩
    all_goals
      replace T := hide T
      go_enter Try.func16, Try.ntmps16
      go_wp2_with fail
      refine wp_loop_rounds 1 ?_
      rw [rounds_succ]
      go_wp2
      go_ret
      exact ⟨by rw [unhide hb0, unhide T]; simp, rfl⟩
  · rcases hcase with ⟨t1, T⟩ | ⟨t1, t2, T⟩ | ⟨t1, t2, T⟩
    all_goals
      replace T := hide T
      go_enter Try.func16, Try.ntmps16
      go_wp2_with fail
      go_loop [3, 49] (fun b i => ∃ j : Nat, j ≤ n ∧ i = .int .i64 (j : Int) ∧ b = .int .i64 (best (baseOf s) ks j)) (fun _ i => n - (intOf i).toNat)
      case atStart => exact ⟨0, Nat.zero_le _, rfl, by rw [best, unhide T]⟩
      case round =>
        obtain ⟨j, hj, rfl, rfl⟩ := hrel
        by_cases hlt : (j : Int) < n
        · have hb := HB.out j hj
          have hcj : w.cell? ⟨g, 1 + j, none⟩ = some (vs j) := by rw [Nat.add_comm]; exact HV.out j (by omega)
          have hkj := HK.out j (by omega)
          have hwj := wth_bd (o := 4) (by omega) hkj.1 hkj.2 (by omega)
          have HGj := hide (HG.out j (by omega))
          by_cases hb2 : best (baseOf s) ks j < wth 4 (ks j)
          · have HE := hide (best_yes hb2)
            go_wp2_with (first | (go_at_call 18; refine (unhide HGj).mono ?_; rintro e w' ⟨rfl, rfl⟩) | (go_at_call 17; refine (within_any _ _ _ (by omega) (by omega) hkj.1 (by omega)).mono ?_; rintro e w' ⟨rfl, rfl⟩))
            go_round
            case rel => exact ⟨j + 1, by omega, by go_num, by rw [unhide HE]⟩
            case measure => simp [intOf]; omega
          · have HE := hide (best_no hb2)
            go_wp2_with (first | (go_at_call 18; refine (unhide HGj).mono ?_; rintro e w' ⟨rfl, rfl⟩) | (go_at_call 17; refine (within_any _ _ _ (by omega) (by omega) hkj.1 (by omega)).mono ?_; rintro e w' ⟨rfl, rfl⟩))
            go_round
            case rel => exact ⟨j + 1, by omega, by go_num, by rw [unhide HE]⟩
            case measure => simp [intOf]; omega
        · obtain rfl : j = n := by omega
          go_wp2
          go_ret
          exact ⟨by simp, rfl⟩
end Go.Proofs.Qxb6614339a
