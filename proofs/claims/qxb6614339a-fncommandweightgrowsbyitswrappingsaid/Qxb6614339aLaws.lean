import Derived.Test.Qxb6614339aOf
namespace Go.Proofs.Qxb6614339a
open Go.RowKit
set_option linter.unusedVariables false

/-- What the bound on lengths answers. -/
def Fits (n m : Nat) (w : World) (e : Ending) (w' : World) : Prop := ∃ b : Bool, e = .returned (.bool b) ∧ w = w' ∧ (b = true → n ≤ 1048576 ∧ m ≤ 1048576)
theorem fits_no {n m : Nat} {w w' : World} {e : Ending} (he : e = .returned (.bool false)) (hw : w = w') : Fits n m w e w' := ⟨false, he, hw, fun h => by cases h⟩
theorem fits_yes {n m : Nat} {w w' : World} {e : Ending} (he : e = .returned (.bool true)) (hw : w = w') (h : n ≤ 1048576 ∧ m ≤ 1048576) : Fits n m w e w' := ⟨true, he, hw, fun _ => h⟩

set_option maxHeartbeats 400000 in
theorem fits5 (s : ByteArray) (a : Option Addr) (len cap : Nat) (w : World) (hs : s.size ≤ maxLen) (hl : len ≤ maxLen) :
    Calls Try.prog 5 #[.string s, .slice a len cap] w fun e w' => Fits s.size len w e w' := by
  unfold maxLen at hs hl
  by_cases h1 : (1048576 : Int) < s.size
  · go_enter Try.func5, Try.ntmps5
    go_wp2
    go_ret
    exact fits_no (by simp) rfl
  by_cases h2 : (1048576 : Int) < len
  · go_enter Try.func5, Try.ntmps5
    go_wp2
    go_ret
    exact fits_no (by simp) rfl
  by_cases h3 : (1048576 : Int) < s.size + len
  · go_enter Try.func5, Try.ntmps5
    go_wp2
    go_ret
    exact fits_no (by simp) rfl
  · go_enter Try.func5, Try.ntmps5
    go_wp2
    go_ret
    exact fits_yes (by simp) rfl ⟨by omega, by omega⟩

set_option maxHeartbeats 400000 in
theorem fits9 (s : ByteArray) (a : Option Addr) (len cap : Nat) (k : Int) (w : World) (hs : s.size ≤ maxLen) (hl : len ≤ maxLen) :
    Calls Try.prog 9 #[.string s, .slice a len cap, .int .i64 k] w fun e w' => Fits s.size len w e w' := by
  unfold maxLen at hs hl
  by_cases h1 : (1048576 : Int) < s.size
  · go_enter Try.func9, Try.ntmps9
    go_wp2
    go_ret
    exact fits_no (by simp) rfl
  by_cases h2 : (1048576 : Int) < len
  · go_enter Try.func9, Try.ntmps9
    go_wp2
    go_ret
    exact fits_no (by simp) rfl
  by_cases h3 : (1048576 : Int) < s.size + len
  · go_enter Try.func9, Try.ntmps9
    go_wp2
    go_ret
    exact fits_no (by simp) rfl
  · go_enter Try.func9, Try.ntmps9
    go_wp2
    go_ret
    exact fits_yes (by simp) rfl ⟨by omega, by omega⟩

set_option maxHeartbeats 400000 in
theorem weight8 (v : Value) (k : Int) (w : World) (h : Gives 16 v w k) : Gives 8 v w k := by
  have H := hide h
  clear h
  unfold Gives
  go_enter Try.func8, Try.ntmps8
  go_wp2_with (go_at_call 16; refine (unhide H).mono ?_; rintro e w' ⟨rfl, rfl⟩)
  go_ret
  exact ⟨by simp, rfl⟩

set_option maxHeartbeats 1000000 in
theorem law_nested (s : ByteArray) (a : Option Addr) (len cap : Nat) (ds : Nat → Int) (w : World) (hs : s.size ≤ maxLen) (hl : len ≤ maxLen) (hD : Depths w a len ds) :
    Calls Try.prog 3 #[.string s, .slice a len cap] w fun e w' => e = .returned (.bool true) ∧ Below w.heap.size w w' := by
  have HD := hide hD
  clear hD
  go_enter Try.func3, Try.ntmps3
  go_wp2_with fail
  refine (fits5 _ _ _ _ _ hs hl).mono ?_
  rintro e w1 ⟨b, rfl, rfl, hb⟩
  cases b
  · clear hb
    go_wp2
    go_ret
    exact ⟨by simp, Below.refl _ _⟩
  · obtain ⟨hb1, hb2⟩ := hb rfl
    clear hb
    go_wp2_with fail
    refine (tooBig_any _ _ _ _ ds _ hb1 hb2 HD.out).mono ?_
    rintro e w1 ⟨b, rfl, rfl, hb⟩
    cases b
    · obtain ⟨hc1, hc2⟩ := hb rfl
      have HC2 := hide hc2
      clear hb hc2
      go_wp2_with fail
      refine (commandOf_any _ _ _ _ ds _ hc1 HD.out HC2.out).mono ?_
      rintro e w2 ⟨rfl, hM⟩
      have HM := hide hM
      have HG := hide (weight8 _ _ _ (hM.cmdR hc1 HC2.out w2 (fun _ _ _ => rfl)))
      clear hM
      generalize best (baseOf s) (fun i => kOf (ds i)) len = want at *
      go_wp2_with (go_at_call 8; refine (unhide HG).mono ?_; rintro e w' ⟨rfl, rfl⟩)
      go_ret
      exact ⟨by simp, HM.out.bel⟩
    · clear hb
      go_wp2
      go_ret
      exact ⟨by simp, Below.refl _ _⟩
end Go.Proofs.Qxb6614339a
