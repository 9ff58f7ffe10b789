import Derived.Test.Qxb6614379aRebuild
namespace Go.Proofs.Qxb6614379a
open Go.RowKit
set_option linter.unusedVariables false

/-- Some bool comes back; nothing turns. -/
def AnyBool (w : World) (e : Ending) (w' : World) : Prop := ∃ b : Bool, e = .returned (.bool b) ∧ w = w'
theorem anyBool {w w' : World} {e : Ending} (b : Bool) (he : e = .returned (.bool b)) (hw : w = w') : AnyBool w e w' := ⟨b, he, hw⟩

set_option maxHeartbeats 400000 in
theorem bytes19 (s u : ByteArray) (k : Int) (w : World) (hs : s.size ≤ maxLen) (hu : u.size ≤ maxLen) :
    Calls Try.prog 19 #[.string s, .int .i64 k, .string u] w fun e w' => AnyBool w e w' := by
  unfold maxLen at hs hu
  by_cases h1 : (1048576 : Int) < s.size
  · go_enter Try.func19, Try.ntmps19
    go_wp2
    go_ret
    exact anyBool false (by simp) rfl
  by_cases h2 : (1048576 : Int) < u.size
  · go_enter Try.func19, Try.ntmps19
    go_wp2
    go_ret
    exact anyBool false (by simp) rfl
  by_cases h3 : (1048576 : Int) < s.size + u.size
  · go_enter Try.func19, Try.ntmps19
    go_wp2
    go_ret
    exact anyBool false (by simp) rfl
  · go_enter Try.func19, Try.ntmps19
    go_wp2
    go_ret
    exact anyBool true (by simp) rfl

/-- The prefix of a name whose local part begins at la. -/
def pfxOf (s : ByteArray) (la : Nat) : ByteArray := if la = 0 then ⟨#[]⟩ else s.extract 0 (la - 1)

set_option maxHeartbeats 400000 in
theorem prefix25 (eb hb t nb la : Nat) (s u : ByteArray) (w : World) (hla : la ≤ s.size) (hs : s.size ≤ 65536) (he : Elem w eb hb t nb la s u) :
    Calls Try.prog 25 #[.pointer (some ⟨eb, 0, none⟩)] w fun e w' => e = .returned (.string (pfxOf s la)) ∧ Below w.heap.size w w' := by
  have e0 := he.e0
  have h0 := he.h0
  by_cases hz : la = 0
  · subst hz
    have c1 := hide he.t1
    have HP : Hid (pfxOf s 0 = ⟨#[]⟩) := hide rfl
    clear he
    go_enter Try.func25, Try.ntmps25
    go_wp2_with (go_at_call 41; refine (pfx_zero t _ c1.out).mono ?_; rintro e w1 ⟨rfl, hb1⟩)
    go_ret
    exact ⟨by rw [unhide HP]; simp, hb1⟩
  · obtain ⟨p, rfl⟩ : ∃ p, la = p + 1 := ⟨la - 1, by omega⟩
    have t0 := hide he.t0
    have t1 : Hid (w.cell? ⟨t, 1, none⟩ = some (.int .i64 ((p : Int) + 1))) := hide (by simpa using he.t1)
    have HP : Hid (pfxOf s (p + 1) = s.extract 0 p) := hide (by simp [pfxOf])
    clear he
    go_enter Try.func25, Try.ntmps25
    go_wp2_with (go_at_call 41; refine (pfx_some t p s _ (by omega) hs t0.out t1.out).mono ?_; rintro e w1 ⟨rfl, hb1⟩)
    go_ret
    exact ⟨by rw [unhide HP]; simp, hb1⟩

/-- prefix, ':', local part: the name as written. -/
theorem join_back (s : ByteArray) (la : Nat) (h : Fine s la) (hs : s.size ≤ 65536) (w : World) :
    Calls Try.prog 24 #[.string (pfxOf s la), .string (s.extract la s.size)] w fun e w' => e = .returned (.string s) ∧ Below w.heap.size w w' := by
  have hext : ∀ a b, (s.extract a b).size ≤ 65536 := by intro a b; rw [ByteArray.size_extract]; omega
  rcases h with ⟨h0, _⟩ | ⟨p, hp, hp1, hps, hc⟩
  · obtain rfl : la = 0 := by omega
    have e : s.extract 0 s.size = s := by
      apply ByteArray.ext; simp
    rw [e]
    exact qname_empty s w
  · obtain rfl : la = p + 1 := by omega
    have e : pfxOf s (p + 1) = s.extract 0 p := by simp [pfxOf]
    rw [e]
    have hne : (s.extract 0 p).toList.isEmpty = false := by
      cases hl : (s.extract 0 p).toList with
      | nil =>
        have h2 := congrArg ByteArray.size ((toList_nil_iff_emptyBytes _).1 hl)
        rw [ByteArray.size_extract, ByteArray.size_empty] at h2
        omega
      | cons a l => rfl
    have h := qname_full (s.extract 0 p) (s.extract (p + 1) s.size) w (hext _ _) (hext _ _) hne
    rw [rebuild s p hps ((hc p).2 rfl)] at h
    exact h

theorem fine_nat {s : ByteArray} {la : Int} (h : Fine s la) : ∃ n : Nat, la = n ∧ n ≤ s.size := by
  rcases h with ⟨rfl, _⟩ | ⟨p, rfl, _, hp, _⟩
  · exact ⟨0, rfl, Nat.zero_le _⟩
  · exact ⟨p + 1, by simp, hp⟩

theorem Elem.drew {w : World} {eb hb t nb la : Nat} {s u : ByteArray} (h : Elem w eb hb t nb la s u) : Elem w.drew eb hb t nb la s u := ⟨h.e0, h.h0, h.t0, h.t1, h.t2, h.n0⟩

set_option maxHeartbeats 1000000 in
theorem law_rebuild (s u : ByteArray) (k : Int) (w : World) (hs : s.size ≤ maxLen) (hu : u.size ≤ maxLen) (hk0 : -9223372036854775808 ≤ k) (hk1 : k ≤ 9223372036854775807) :
    Calls Try.prog 5 #[.string s, .int .i64 k, .string u] w fun e w' => e = .returned (.bool true) ∧ Below w.heap.size w w' := by
  have hs2 := hs
  have hu2 := hu
  unfold maxLen at hs2 hu2
  go_enter Try.func5, Try.ntmps5
  go_wp2_with fail
  refine (bytes19 _ _ _ _ hs hu).mono ?_
  rintro e w1 ⟨b, rfl, rfl⟩
  cases b
  · go_wp2
    go_ret
    exact ⟨by simp, Below.refl _ _⟩
  by_cases h1 : (65536 : Int) < s.size
  · have hd : decide ((65536 : Int) < s.size) = true := by simpa using h1
    go_wp2
    go_ret
    exact ⟨by simp, Below.refl _ _⟩
  have hd1 : decide ((65536 : Int) < s.size) = false := by simpa using h1
  by_cases h2 : (65536 : Int) < u.size
  · have hd : decide ((65536 : Int) < u.size) = true := by simpa using h2
    go_wp2
    go_ret
    exact ⟨by simp, Below.refl _ _⟩
  have hd2 : decide ((65536 : Int) < u.size) = false := by simpa using h2
  have hs3 : s.size ≤ 65536 := by omega
  go_wp2_with fail
  refine (qname_any s k _ hs3 hk0 hk1).mono ?_
  rintro e w1 ⟨b, rfl, rfl, hb⟩
  cases b
  · clear hb
    go_wp2
    go_ret
    exact ⟨by simp, Below.refl _ _⟩
  have hF := hb rfl
  obtain ⟨la, rfl, hla⟩ := fine_nat hF
  have HF := hide hF
  clear hb hF h1 h2
  go_wp2_with fail
  refine (newElement_any la s u _).mono ?_
  rintro e w1 ⟨rfl, he1, hb1⟩
  have HE1 := hide he1
  clear he1
  go_wp2_with fail
  refine (newAssertion_any _ _).mono ?_
  rintro e w2 ⟨rfl, ca2, hb2⟩
  have HE2 := hide (HE1.out.keep hb2)
  clear HE1
  go_wp2_with fail
  refine (name_any _ _ _ _ _ la s u _ hla hs3 ca2 HE2.out).mono ?_
  rintro e w3 ⟨rfl, hb3⟩
  have HE3 := hide (HE2.out.keep hb3)
  have hB3 : Hid (Below w.heap.size w w3) := hide ((hb1.trans (hb2.mono hb1.size)).trans (hb3.mono (Nat.le_trans hb1.size hb2.size)))
  clear HE2 ca2 hb1 hb2 hb3
  go_wp2_with fail
  have HE4 := hide (HE3.out.keep ((Below.refl _ _).alloc (Nat.le_refl _) (.cells #[.string u, .string (s.extract la s.size)] 45)))
  have hB4 : Hid (Below w.heap.size w (w3.alloc (.cells #[.string u, .string (s.extract la s.size)] 45))) := hide (hB3.out.alloc hB3.out.size _)
  have Q3 : Hid ((w3.alloc (.cells #[.string u, .string (s.extract la s.size)] 45)).cell? ⟨w3.heap.size, 1, none⟩ = some (.string (s.extract la s.size))) := hide (by rw [World.cell?_alloc_at _ _ _ _ rfl]; rfl)
  clear HE3
  go_region_with (first
    | (go_at_call 25; refine (prefix25 (w.heap.size + 3) (w.heap.size + 2) (w.heap.size + 1) w.heap.size la s u _ hla hs3 ?_).mono ?_; exact HE4.out.drew; rintro e w4 ⟨rfl, hb4⟩; have q4 : w4.cell? ⟨w3.heap.size, 1, none⟩ = some (.string (s.extract la s.size)) := (hb4.cell (p := ⟨w3.heap.size, 1, none⟩) (by simp)).trans Q3.out)
    | (go_at_call 24; refine (join_back s la HF.out hs3 _).mono ?_; rintro e w5 ⟨rfl, hb5⟩))
  all_goals
    go_wp2
    go_ret
    refine ⟨rfl, ?_⟩
    have h4 : Below w.heap.size w w4 := hB4.out.drew.trans (hb4.mono hB4.out.size)
    exact h4.trans (hb5.mono h4.size)
end Go.Proofs.Qxb6614379a
