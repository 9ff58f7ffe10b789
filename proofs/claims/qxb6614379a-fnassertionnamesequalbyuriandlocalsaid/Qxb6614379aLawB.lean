import Derived.Test.Qxb6614379aLawA
namespace Go.Proofs.Qxb6614379a
open Go.RowKit
set_option linter.unusedVariables false

theorem extract_all (s : ByteArray) : s.extract 0 s.size = s := by apply ByteArray.ext; simp

set_option maxHeartbeats 1000000 in
theorem localPart_any (s : ByteArray) (la : Nat) (w : World) (hs : s.size ≤ 65536) (h : Fine s la) :
    Calls Try.prog 27 #[.string s] w fun e w' => e = .returned (.string (s.extract la s.size)) ∧ w = w' := by
  have hs' : (s.size : Int) ≤ 65536 := by omega
  rcases h with ⟨h0, hn⟩ | ⟨p, hp, hp1, hps, hc⟩
  · obtain rfl : la = 0 := by omega
    have HN := hide hn
    clear hn
    go_enter Try.func27, Try.ntmps27
    go_wp2
    go_loop [3] (fun i => ∃ k : Nat, k ≤ s.size ∧ i = .int .i64 (k : Int)) (fun i => s.size - (intOf i).toNat)
    case atStart => exact ⟨0, Nat.zero_le _, rfl⟩
    case round =>
      obtain ⟨k, hk, rfl⟩ := hrel
      by_cases hlt : k < s.size
      · have hcol := colAt_in s k hlt
        rw [HN.out k] at hcol
        go_wp2
        go_round
        case rel => exact ⟨k + 1, by omega, by go_num⟩
        case measure => simp [intOf]; omega
      · obtain rfl : k = s.size := by omega
        go_wp2
        go_ret
        exact ⟨by simp, rfl⟩
  · obtain rfl : la = p + 1 := by omega
    have HC := hide hc
    clear hc
    go_enter Try.func27, Try.ntmps27
    go_wp2
    go_loop [3] (fun i => ∃ k : Nat, k ≤ p ∧ i = .int .i64 (k : Int)) (fun i => s.size - (intOf i).toNat)
    case atStart => exact ⟨0, Nat.zero_le _, rfl⟩
    case round =>
      obtain ⟨k, hk, rfl⟩ := hrel
      have hlt : k < s.size := by omega
      have hcol := colAt_in s k hlt
      by_cases hkp : k = p
      · subst hkp
        rw [(HC.out k).2 rfl] at hcol
        have hk1 : (k : Int) + 1 ≤ s.size := by omega
        go_wp2
        go_ret
        exact ⟨by simp, rfl⟩
      · have hf : colAt s k = false := by
          cases hh : colAt s k
          · rfl
          · exact absurd ((HC.out k).1 hh) hkp
        rw [hf] at hcol
        clear hf
        go_wp2
        go_round
        case rel => exact ⟨k + 1, by omega, by go_num⟩
        case measure => simp [intOf]; omega

set_option maxHeartbeats 1000000 in
theorem bytes26 (s u s2 u2 : ByteArray) (k k2 : Int) (w : World) (hs : s.size ≤ maxLen) (hu : u.size ≤ maxLen) (hs2 : s2.size ≤ maxLen) (hu2 : u2.size ≤ maxLen) :
    Calls Try.prog 26 #[.string s, .int .i64 k, .string u, .string s2, .int .i64 k2, .string u2] w fun e w' => AnyBool w e w' := by
  unfold maxLen at hs hu hs2 hu2
  go_enter Try.func26, Try.ntmps26
  go_wp2
  all_goals
    go_ret
    exact anyBool _ rfl rfl

set_option maxHeartbeats 1500000 in
theorem law_equal (s u s2 u2 : ByteArray) (k k2 : Int) (w : World) (hs : s.size ≤ maxLen) (hu : u.size ≤ maxLen) (hs2 : s2.size ≤ maxLen) (hu2 : u2.size ≤ maxLen)
    (hk0 : -9223372036854775808 ≤ k) (hk1 : k ≤ 9223372036854775807) (hk20 : -9223372036854775808 ≤ k2) (hk21 : k2 ≤ 9223372036854775807) :
    Calls Try.prog 6 #[.string s, .int .i64 k, .string u, .string s2, .int .i64 k2, .string u2] w fun e w' => e = .returned (.bool true) ∧ Below w.heap.size w w' := by
  go_enter Try.func6, Try.ntmps6
  go_wp2_with fail
  refine (bytes26 _ _ _ _ _ _ _ hs hu hs2 hu2).mono ?_
  rintro e w1 ⟨b, rfl, rfl⟩
  unfold maxLen at hs hu hs2 hu2
  cases b
  · go_wp2
    go_ret
    exact ⟨by simp, Below.refl _ _⟩
  by_cases h1 : (65536 : Int) < s.size
  · have hd : decide ((65536 : Int) < s.size) = true := by simpa using h1
    go_wp2
    go_ret
    exact ⟨by simp, Below.refl _ _⟩
  have hd1 : decide ((65536 : Int) < s.size) = false := by simpa using h1
  by_cases h2 : (65536 : Int) < u.size
  · have hd : decide ((65536 : Int) < u.size) = true := by simpa using h2
    go_wp2
    go_ret
    exact ⟨by simp, Below.refl _ _⟩
  have hd2 : decide ((65536 : Int) < u.size) = false := by simpa using h2
  by_cases h3 : (65536 : Int) < s2.size
  · have hd : decide ((65536 : Int) < s2.size) = true := by simpa using h3
    go_wp2
    go_ret
    exact ⟨by simp, Below.refl _ _⟩
  have hd3 : decide ((65536 : Int) < s2.size) = false := by simpa using h3
  by_cases h4 : (65536 : Int) < u2.size
  · have hd : decide ((65536 : Int) < u2.size) = true := by simpa using h4
    go_wp2
    go_ret
    exact ⟨by simp, Below.refl _ _⟩
  have hd4 : decide ((65536 : Int) < u2.size) = false := by simpa using h4
  have hs3 : s.size ≤ 65536 := by omega
  have hs4 : s2.size ≤ 65536 := by omega
  clear h1 h2 h3 h4
  go_wp2_with fail
  refine (qname_any s k _ hs3 hk0 hk1).mono ?_
  rintro e w1 ⟨b, rfl, rfl, hb⟩
  cases b
  · clear hb
    go_wp2
    go_ret
    exact ⟨by simp, Below.refl _ _⟩
  have hF := hb rfl
  obtain ⟨la, rfl, hla⟩ := fine_nat hF
  have HF := hide hF
  clear hb hF
  go_wp2_with fail
  refine (qname_any s2 k2 _ hs4 hk20 hk21).mono ?_
  rintro e w1 ⟨b, rfl, rfl, hb⟩
  cases b
  · clear hb
    go_wp2
    go_ret
    exact ⟨by simp, Below.refl _ _⟩
  have hF2 := hb rfl
  obtain ⟨lb, rfl, hlb⟩ := fine_nat hF2
  have HF2 := hide hF2
  clear hb hF2 hk0 hk1 hk20 hk21
  go_wp2_with fail
  refine (newElement_any la s u _).mono ?_
  rintro e w1 ⟨rfl, he1, hb1⟩
  have HE1 := hide he1
  clear he1
  go_wp2_with fail
  refine (newAssertion_any _ _).mono ?_
  rintro e w2 ⟨rfl, ca2, hb2⟩
  have HE2 := hide (HE1.out.keep hb2)
  clear HE1
  go_wp2_with fail
  refine (name_any _ _ _ _ _ la s u _ hla hs3 ca2 HE2.out).mono ?_
  rintro e w3 ⟨rfl, hb3⟩
  have hB3 : Hid (Below w.heap.size w w3) := hide ((hb1.trans (hb2.mono hb1.size)).trans (hb3.mono (Nat.le_trans hb1.size hb2.size)))
  clear HE2 ca2 hb1 hb2 hb3
  go_wp2_with fail
  have hbA : Below w3.heap.size w3 (w3.alloc (.cells #[.string u, .string (s.extract la s.size)] 45)) := (Below.refl _ _).alloc (Nat.le_refl _) _
  have hA0 : (w3.alloc (.cells #[.string u, .string (s.extract la s.size)] 45)).cell? ⟨w3.heap.size, 0, none⟩ = some (.string u) := by rw [World.cell?_alloc_at _ _ _ _ rfl]; rfl
  have hA1 : (w3.alloc (.cells #[.string u, .string (s.extract la s.size)] 45)).cell? ⟨w3.heap.size, 1, none⟩ = some (.string (s.extract la s.size)) := by rw [World.cell?_alloc_at _ _ _ _ rfl]; rfl
  have HA := hide (And.intro hA0 hA1)
  have hBA : Hid (Below w.heap.size w (w3.alloc (.cells #[.string u, .string (s.extract la s.size)] 45))) := hide (hB3.out.alloc hB3.out.size _)
  have hL1 := hide (localPart_any s la)
  clear hA0 hA1 hbA hB3
  refine (newElement_any lb s2 u2 _).mono ?_
  rintro e w4 ⟨rfl, he4, hb4⟩
  have hsz : (w3.alloc (.cells #[.string u, .string (s.extract la s.size)] 45)).heap.size = w3.heap.size + 1 := by simp
  rw [hsz] at he4
  have HE4 := hide he4
  clear he4
  go_wp2_with fail
  refine (newAssertion_any _ _).mono ?_
  rintro e w5 ⟨rfl, ca5, hb5⟩
  have HE5 := hide (HE4.out.keep hb5)
  clear HE4
  go_wp2_with fail
  refine (name_any _ _ _ _ _ lb s2 u2 _ hlb hs4 ca5 HE5.out).mono ?_
  rintro e w6 ⟨rfl, hb6⟩
  have hb46 : Below (w3.heap.size + 1) (w3.alloc (.cells #[.string u, .string (s.extract la s.size)] 45)) w6 := by
    have h4 := hb4.mono (show w3.heap.size + 1 ≤ _ by simp)
    have h5 := hb5.mono (Nat.le_trans (show w3.heap.size + 1 ≤ _ by simp) hb4.size)
    have h6 := hb6.mono (Nat.le_trans (Nat.le_trans (show w3.heap.size + 1 ≤ _ by simp) hb4.size) hb5.size)
    exact (h4.trans h5).trans h6
  have hA6 := hide (And.intro ((hb46.cell (p := ⟨w3.heap.size, 0, none⟩) (by simp)).trans HA.out.1) ((hb46.cell (p := ⟨w3.heap.size, 1, none⟩) (by simp)).trans HA.out.2))
  have hB6 : Hid (Below w.heap.size w w6) := hide (hBA.out.trans (hb46.mono (by have := hBA.out.size; simp at this; omega)))
  have hn1 : w3.heap.size < w6.heap.size := by have := hb46.size; simp at this; omega
  clear HE5 ca5 hb4 hb5 hb6 hb46 HA hBA
  go_wp2_with fail
  refine (newAssertion_any _ _).mono ?_
  rintro e w7 ⟨rfl, ca7, hb7⟩
  have hsz6 : (w6.alloc (.cells #[.string u2, .string (s2.extract lb s2.size)] 45)).heap.size = w6.heap.size + 1 := by simp
  rw [hsz6] at ca7
  go_wp2_with fail
  refine (name_nil (w6.heap.size + 1) _ ca7).mono ?_
  rintro e w8 ⟨rfl, hb8⟩
  have hb68 : Below (w6.heap.size + 1) (w6.alloc (.cells #[.string u2, .string (s2.extract lb s2.size)] 45)) w8 := (hb7.mono (by simp)).trans (hb8.mono (Nat.le_trans (by simp) hb7.size))
  have hB0 : Below w6.heap.size w6 (w6.alloc (.cells #[.string u2, .string (s2.extract lb s2.size)] 45)) := (Below.refl _ _).alloc (Nat.le_refl _) _
  have a0 : w8.cell? ⟨w3.heap.size, 0, none⟩ = some (.string u) := (hb68.cell (p := ⟨w3.heap.size, 0, none⟩) (by show w3.heap.size < _; omega)).trans ((hB0.cell (p := ⟨w3.heap.size, 0, none⟩) hn1).trans hA6.out.1)
  have a1 : w8.cell? ⟨w3.heap.size, 1, none⟩ = some (.string (s.extract la s.size)) := (hb68.cell (p := ⟨w3.heap.size, 1, none⟩) (by show w3.heap.size < _; omega)).trans ((hB0.cell (p := ⟨w3.heap.size, 1, none⟩) hn1).trans hA6.out.2)
  have b0 : w8.cell? ⟨w6.heap.size, 0, none⟩ = some (.string u2) := (hb68.cell (p := ⟨w6.heap.size, 0, none⟩) (by simp)).trans (by rw [World.cell?_alloc_at _ _ _ _ rfl]; rfl)
  have b1 : w8.cell? ⟨w6.heap.size, 1, none⟩ = some (.string (s2.extract lb s2.size)) := (hb68.cell (p := ⟨w6.heap.size, 1, none⟩) (by simp)).trans (by rw [World.cell?_alloc_at _ _ _ _ rfl]; rfl)
  have hn2 : w6.heap.size < w8.heap.size := by have := hb68.size; simp at this; omega
  have hn3 : w3.heap.size < w8.heap.size := by omega
  have hB8 : Hid (Below w.heap.size w w8) := hide ((hB6.out.alloc hB6.out.size _).trans (hb68.mono (by have := hB6.out.size; omega)))
  clear hb68 hB0 hA6 hb7 hb8 ca7 hB6
  have HLa := hide (fun w => localPart_any s la w hs3 HF.out)
  have HLb := hide (fun w => localPart_any s2 lb w hs4 HF2.out)
  clear HF HF2 hL1
  generalize s.extract la s.size = L1 at *
  generalize s2.extract lb s2.size = L2 at *
  generalize w3.heap.size = n1 at *
  generalize w6.heap.size = n2 at *
  clear hsz hsz6
  cases hue : (u.toList == u2.toList)
  · go_wp2_with fail
    go_ret
    exact ⟨by simp, hB8.out.alloc hB8.out.size _⟩
  · cases hll : (L1.toList == L2.toList)
    · go_wp2_with fail
      refine (HLa.out _).mono ?_
      rintro e w9 ⟨rfl, rfl⟩
      go_wp2_with fail
      refine (HLb.out _).mono ?_
      rintro e w9 ⟨rfl, rfl⟩
      go_wp2_with fail
      go_ret
      exact ⟨by simp, hB8.out.alloc hB8.out.size _⟩
    · go_wp2_with fail
      refine (HLa.out _).mono ?_
      rintro e w9 ⟨rfl, rfl⟩
      go_wp2_with fail
      refine (HLb.out _).mono ?_
      rintro e w9 ⟨rfl, rfl⟩
      go_wp2_with fail
      go_ret
      exact ⟨by simp, hB8.out.alloc hB8.out.size _⟩
end Go.Proofs.Qxb6614379a
