import Derived.Test.Qxb6614379aLawA
namespace Go.Proofs.Qxb6614379a
open Go.RowKit
set_option linter.unusedVariables false

/-- A slice of attributes that came in: the four strings of each. -/
def Ats (w : World) (ao : Option Addr) (n : Nat) (S L P V : Nat → ByteArray) : Prop :=
  ∀ k, k < n → ∃ a, ao = some a ∧ a.block < w.heap.size ∧ (w.cell? (a.add (k * 4)) = some (.string (S k)) ∧ w.cell? ⟨(a.add (k * 4)).block, (a.add (k * 4)).off + 1, none⟩ = some (.string (L k)) ∧ w.cell? ⟨(a.add (k * 4)).block, (a.add (k * 4)).off + 2, none⟩ = some (.string (P k)) ∧ w.cell? ⟨(a.add (k * 4)).block, (a.add (k * 4)).off + 3, none⟩ = some (.string (V k))) ∧ ((S k).size ≤ maxLen ∧ (L k).size ≤ maxLen ∧ (P k).size ≤ maxLen ∧ (V k).size ≤ maxLen)

theorem add_block (a : Addr) (k : Nat) : (a.add k).block = a.block := by unfold Addr.add; split <;> rfl

theorem Ats.keep {w w' : World} {ao : Option Addr} {n B : Nat} {S L P V : Nat → ByteArray} (h : Ats w ao n S L P V) (b : Below B w w') (hB : w.heap.size ≤ B) : Ats w' ao n S L P V := by
  intro k hk
  obtain ⟨a, rfl, hlt, ⟨h0, h1, h2, h3⟩, hs⟩ := h k hk
  have key : ∀ {p : Addr}, p.block = a.block → w'.cell? p = w.cell? p := fun {p} hp => b.cell (p := p) (by rw [hp]; omega)
  exact ⟨a, rfl, Nat.lt_of_lt_of_le hlt b.size, ⟨(key (add_block _ _)).trans h0, (key (by simp [add_block])).trans h1, (key (by simp [add_block])).trans h2, (key (by simp [add_block])).trans h3⟩, hs⟩

/-- Every string of the first n attributes is short. -/
def Small (n : Nat) (S L P V : Nat → ByteArray) : Prop :=
  ∀ k, k < n → ((S k).size : Int) ≤ 1048576 ∧ ((L k).size : Int) ≤ 1048576 ∧ ((P k).size : Int) ≤ 1048576 ∧ ((V k).size : Int) ≤ 1048576

def SmallBool (n : Nat) (S L P V : Nat → ByteArray) (w : World) (e : Ending) (w' : World) : Prop := ∃ b : Bool, e = .returned (.bool b) ∧ w = w' ∧ (b = true → Small n S L P V)
theorem smallBool_false {n : Nat} {S L P V : Nat → ByteArray} {w w' : World} {e : Ending} (he : e = .returned (.bool false)) (hw : w = w') : SmallBool n S L P V w e w' := ⟨false, he, hw, fun h => by cases h⟩
theorem smallBool_true {n : Nat} {S L P V : Nat → ByteArray} {w w' : World} {e : Ending} (he : e = .returned (.bool true)) (hw : w = w') (h : Small n S L P V) : SmallBool n S L P V w e w' := ⟨true, he, hw, fun _ => h⟩

set_option maxRecDepth 20000 in
set_option maxHeartbeats 2000000 in
theorem bytes35 (s u : ByteArray) (la i0 : Int) (ao : Option Addr) (n cap : Nat) (S L P V : Nat → ByteArray) (w : World) (hs : s.size ≤ maxLen) (hu : u.size ≤ maxLen) (hn : n ≤ maxLen) (ha : Ats w ao n S L P V) :
    Calls Try.prog 35 #[.string s, .int .i64 la, .string u, .slice ao n cap, .int .i64 i0] w fun e w' => SmallBool n S L P V w e w' := by
  unfold maxLen at hs hu hn
  have HA := hide ha
  clear ha
  go_enter Try.func35, Try.ntmps35
  go_wp2
  all_goals try (go_ret; exact smallBool_false rfl rfl)
  go_loop [11, 12] (fun t i => ∃ (k : Nat) (m : Int), k ≤ n ∧ 0 ≤ m ∧ m ≤ 1048576 ∧ Hid (Small k S L P V) ∧ t = .int .i64 m ∧ i = .int .i64 (k : Int)) (fun t i => n - (intOf i).toNat)
  case atStart => exact ⟨0, _, Nat.zero_le _, by omega, by omega, hide (fun k hk => absurd hk (Nat.not_lt_zero _)), rfl, rfl⟩
  case round =>
    obtain ⟨k, m, hk, hm0, hm1, hsm, rfl, rfl⟩ := hrel
    by_cases hlt : k < n
    · obtain ⟨a, rfl, hab, ⟨h0, h1, h2, h3⟩, g0, g1, g2, g3⟩ := HA.out k hlt
      unfold maxLen at g0 g1 g2 g3
      go_wp2
      all_goals try (go_ret; exact smallBool_false rfl rfl)
      go_round
      case rel =>
        refine ⟨k + 1, _, by omega, ?_, ?_, hide ?_, rfl, by go_num⟩
        · omega
        · omega
        · intro j hj
          rcases Nat.lt_succ_iff_lt_or_eq.1 hj with hj | rfl
          · exact hsm.out j hj
          · exact ⟨by omega, by omega, by omega, by omega⟩
      case measure => simp [intOf]; omega
    · obtain rfl : k = n := by omega
      go_wp2
      go_ret
      exact smallBool_true rfl rfl hsm.out

theorem below_drewN {B : Nat} {a w : World} (q : Nat) (h : Below B a w) : Below B a (w.drewN q) := ⟨h.os, h.tape, h.output, h.size, h.block⟩

def AnyB (w : World) (e : Ending) (w' : World) : Prop := ∃ b : Bool, e = .returned (.bool b) ∧ Below w.heap.size w w'
theorem anyB {w w' : World} {e : Ending} (b : Bool) (he : e = .returned (.bool b)) (hw : Below w.heap.size w w') : AnyB w e w' := ⟨b, he, hw⟩

set_option maxHeartbeats 1000000 in
theorem attrsFit_any (s u : ByteArray) (ao : Option Addr) (n cap : Nat) (S L P V : Nat → ByteArray) (w : World) (hs : s.size ≤ 65536) (hu : u.size ≤ 65536) (hn : n ≤ 1024) (ha : Ats w ao n S L P V) (hsm : Small n S L P V) :
    Calls Try.prog 29 #[.string s, .string u, .slice ao n cap] w fun e w' => AnyB w e w' := by
  have hs' : (s.size : Int) ≤ 65536 := by omega
  have hu' : (u.size : Int) ≤ 65536 := by omega
  have HA := hide ha
  have HS := hide hsm
  clear ha hsm
  go_enter Try.func29, Try.ntmps29
  have hd : decide ((1048576 : Int) < (s.size : Int) + (u.size : Int)) = false := by simp; omega
  go_wp2
  go_loopw [7, 8] (fun t i wr => ∃ (k : Nat) (m : Int), k ≤ n ∧ 0 ≤ m ∧ m ≤ 1048576 ∧ Hid (Below w.heap.size w wr) ∧ t = .int .i64 m ∧ i = .int .i64 (k : Int)) (fun t i _ => n - (intOf i).toNat)
  case atStart => exact ⟨0, _, Nat.zero_le _, by omega, by omega, hide (Below.refl _ _), rfl, rfl⟩
  case round =>
    obtain ⟨k, m, hk, hm0, hm1, hB, rfl, rfl⟩ := hrel
    by_cases hlt : k < n
    · obtain ⟨a, rfl, hab, ⟨h0, h1, h2, h3⟩, g0, g1, g2, g3⟩ := HA.out.keep hB.out (Nat.le_refl _) k hlt
      clear g0 g1 g2 g3
      obtain ⟨g0, g1, g2, g3⟩ := HS.out k hlt
      go_wp2_with fail
      go_quiet (fail)
      go_wp2
      · go_ret
        exact anyB _ rfl (below_drewN _ hB.out)
      · go_round
        case rel => exact ⟨k + 1, _, by omega, by omega, by omega, hide (below_drewN _ hB.out), rfl, by go_num⟩
        case measure => simp [intOf]; omega
    · obtain rfl : k = n := by omega
      go_wp2
      go_ret
      exact anyB _ rfl hB.out

def nameEq (S L : Nat → ByteArray) (k m : Nat) : Bool := (S k).toList == (S m).toList && (L k).toList == (L m).toList
def Distinct (n : Nat) (S L : Nat → ByteArray) : Prop := ∀ k m, k < m → m < n → nameEq S L k m = false
def DistTo (n : Nat) (S L : Nat → ByteArray) (k : Nat) : Prop := ∀ i m, i < k → i < m → m < n → nameEq S L i m = false
def DistBool (n : Nat) (S L : Nat → ByteArray) (w : World) (e : Ending) (w' : World) : Prop := ∃ b : Bool, e = .returned (.bool b) ∧ Below w.heap.size w w' ∧ (b = true → Distinct n S L)
theorem distBool_false {n : Nat} {S L : Nat → ByteArray} {w w' : World} {e : Ending} (he : e = .returned (.bool false)) (hw : Below w.heap.size w w') : DistBool n S L w e w' := ⟨false, he, hw, fun h => by cases h⟩
theorem distBool_true {n : Nat} {S L : Nat → ByteArray} {w w' : World} {e : Ending} (he : e = .returned (.bool true)) (hw : Below w.heap.size w w') (h : DistTo n S L n) : DistBool n S L w e w' := ⟨true, he, hw, fun _ k m hkm hm => h k m (by omega) hkm hm⟩

set_option maxHeartbeats 1000000 in
theorem distinct_any (ao : Option Addr) (n cap : Nat) (S L P V : Nat → ByteArray) (w : World) (hn : n ≤ 1024) (ha : Ats w ao n S L P V) :
    Calls Try.prog 36 #[.slice ao n cap] w fun e w' => DistBool n S L w e w' := by
  have HA := hide ha
  clear ha
  go_enter Try.func36, Try.ntmps36
  go_wp2
  go_loopw [3] (fun i wr => ∃ (k : Nat), k ≤ n ∧ Hid (DistTo n S L k) ∧ Hid (Below w.heap.size w wr) ∧ i = .int .i64 (k : Int)) (fun i _ => n - (intOf i).toNat)
  case atStart => exact ⟨0, Nat.zero_le _, hide (fun i m hi => absurd hi (Nat.not_lt_zero _)), hide (Below.refl _ _), rfl⟩
  case round =>
    obtain ⟨k, hk, hD, hB, rfl⟩ := hrel
    by_cases hlt : k < n
    · go_wp2
      go_loopw [4] (fun i wr => ∃ (m : Nat), k < m ∧ m ≤ n ∧ Hid (∀ j, k < j → j < m → nameEq S L k j = false) ∧ Hid (Below w.heap.size w wr) ∧ i = .int .i64 (m : Int)) (fun i _ => n - (intOf i).toNat)
      case atStart => exact ⟨k + 1, by omega, by omega, hide (fun j h1 h2 => by omega), hB, by go_num⟩
      case round =>
        obtain ⟨m, hkm, hm, hJ, hB2, rfl⟩ := hrel
        by_cases hlm : m < n
        · obtain ⟨a, rfl, hab, ⟨h0, h1, h2, h3⟩, _⟩ := HA.out.keep hB2.out (Nat.le_refl _) k hlt
          obtain ⟨a', ha', _, ⟨h0', h1', h2', h3'⟩, _⟩ := HA.out.keep hB2.out (Nat.le_refl _) m hlm
          obtain rfl : a = a' := by simpa using ha'
          clear h2 h3 h2' h3' ha'
          cases hS : ((S k).toList == (S m).toList)
          · go_wp2_with fail
            go_quiet (fail)
            go_wp2
            go_round
            case rel =>
              refine ⟨m + 1, by omega, by omega, hide fun j g1 g2 => ?_, hide (below_drewN _ hB2.out), by go_num⟩
              rcases Nat.lt_succ_iff_lt_or_eq.1 g2 with g | rfl
              · exact hJ.out j g1 g
              · simp [nameEq, hS]
            case measure => simp [intOf]; omega
          · cases hL : ((L k).toList == (L m).toList)
            · go_wp2_with fail
              go_quiet (fail)
              go_wp2
              go_round
              case rel =>
                refine ⟨m + 1, by omega, by omega, hide fun j g1 g2 => ?_, hide (below_drewN _ hB2.out), by go_num⟩
                rcases Nat.lt_succ_iff_lt_or_eq.1 g2 with g | rfl
                · exact hJ.out j g1 g
                · simp [nameEq, hL]
              case measure => simp [intOf]; omega
            · go_wp2_with fail
              go_quiet (fail)
              go_wp2
              go_ret
              exact distBool_false rfl (below_drewN _ hB2.out)
        · obtain rfl : m = n := by omega
          go_wp2
          go_round
          case rel =>
            refine ⟨k + 1, by omega, hide fun i j g1 g2 g3 => ?_, hB2, by go_num⟩
            rcases Nat.lt_succ_iff_lt_or_eq.1 g1 with g | rfl
            · exact hD.out i j g g2 g3
            · exact hJ.out j g2 g3
          case measure => simp [intOf]; omega
    · obtain rfl : k = n := by omega
      go_wp2
      go_ret
      exact distBool_true rfl hB.out hD.out
end Go.Proofs.Qxb6614379a
