import Derived.Test.Qxb6614379aDrop
namespace Go.Proofs.Qxb6614379a
open Go.RowKit
set_option linter.unusedVariables false

theorem nameEq_symm (S L : Nat → ByteArray) (k m : Nat) : nameEq S L k m = nameEq S L m k := by
  unfold nameEq
  rw [Bool.beq_comm (a := (S k).toList), Bool.beq_comm (a := (L k).toList)]
theorem Distinct.ne {n : Nat} {S L : Nat → ByteArray} (h : Distinct n S L) {k m : Nat} (hk : k < n) (hm : m < n) (hne : k ≠ m) : ((S k).toList == (S m).toList && (L k).toList == (L m).toList) = false := by
  rcases Nat.lt_or_gt_of_ne hne with hlt | hgt
  · exact h k m hlt hm
  · have := h m k hgt hk
    rw [nameEq_symm] at this
    exact this

theorem find_dropped {eb bb hb t : Nat} {s : ByteArray} {ao : Option Addr} {n i cap : Nat} {S L : Nat → ByteArray} {N : Nat → Option Addr} {P V : Nat → ByteArray} (w : World) (hi : i < n) (hn : n ≤ 1024) (hd : Distinct n S L)
    (h : Held w eb bb hb t s ao (n - 1) cap (fun k => S (dr i k)) (fun k => L (dr i k)) (fun k => N (dr i k)) (fun k => P (dr i k)) (fun k => V (dr i k))) :
    Calls Try.prog 37 #[.pointer (some ⟨eb, 0, none⟩), .string (S i), .string (L i)] w fun e w' => (∃ v, e = .returned (.tuple #[.string v, .bool false])) ∧ Below w.heap.size w w' :=
  find_absent (S i) (L i) w (by omega) h fun k hk => hd.ne (by unfold dr; split <;> omega) hi (by unfold dr; split <;> omega)

theorem find_kept {eb bb hb t : Nat} {s : ByteArray} {ao : Option Addr} {n i k cap : Nat} {S L : Nat → ByteArray} {N : Nat → Option Addr} {P V : Nat → ByteArray} (w : World) (hi : i < n) (hn : n ≤ 1024) (hd : Distinct n S L) (hk : k < n) (hki : k ≠ i)
    (h : Held w eb bb hb t s ao (n - 1) cap (fun k => S (dr i k)) (fun k => L (dr i k)) (fun k => N (dr i k)) (fun k => P (dr i k)) (fun k => V (dr i k))) :
    Calls Try.prog 37 #[.pointer (some ⟨eb, 0, none⟩), .string (S k), .string (L k)] w fun e w' => e = .returned (.tuple #[.string (V k), .bool true]) ∧ Below w.heap.size w w' := by
  obtain ⟨k0, hk0, hdr⟩ : ∃ k0, k0 < n - 1 ∧ dr i k0 = k := by
    by_cases h : k < i
    · exact ⟨k, by omega, by simp [dr, h]⟩
    · exact ⟨k - 1, by omega, by unfold dr; split <;> omega⟩
  have := find_hit w (by omega) h (S k) (L k) k0 hk0 (by simp [hdr]) (by simp [hdr]) (fun j hj => hd.ne (by unfold dr; split <;> omega) hk (by rw [← hdr]; unfold dr; split <;> split <;> omega))
  simpa [hdr] using this

theorem find_own {eb bb hb t : Nat} {s : ByteArray} {ao : Option Addr} {n i cap : Nat} {S L : Nat → ByteArray} {N : Nat → Option Addr} {P V : Nat → ByteArray} (w : World) (hi : i < n) (hn : n ≤ 1024) (hd : Distinct n S L)
    (h : Held w eb bb hb t s ao n cap S L N P V) :
    Calls Try.prog 37 #[.pointer (some ⟨eb, 0, none⟩), .string (S i), .string (L i)] w fun e w' => e = .returned (.tuple #[.string (V i), .bool true]) ∧ Below w.heap.size w w' :=
  find_hit w hn h (S i) (L i) i hi rfl rfl fun j hj => hd.ne (by omega) hi (by omega)

theorem Bld.held {w : World} {eb hb t : Nat} {s : ByteArray} {n : Nat} {S L P V : Nat → ByteArray} (h : Bld w eb hb t s n S L P V) (hn : 0 < n) :
    ∃ bb g cap N, Held w eb bb hb t s (some ⟨g, 0, none⟩) n cap S L N P V ∧ w.cell? ⟨bb, 1, none⟩ = some (.slice none 0 0) ∧ w.ownsRow (eb + 1) 93 6 (.slice (some ⟨g, 0, none⟩) n cap) n (cells S L N P V n) := by
  rcases h.body with ⟨h0, _⟩ | ⟨bb, v, N, hlt, e2, hbk, hown⟩
  · omega
  obtain ⟨g, cap, rfl, _, _⟩ := hown.form hn
  exact ⟨bb, g, cap, N, ⟨h.e0, e2, by rw [cell_of_row w bb 0 _ _ _ hbk]; rfl, h.h0, h.t0, row_of_owns hown⟩, by rw [cell_of_row w bb 1 _ _ _ hbk]; rfl, hown⟩

set_option maxRecDepth 20000 in
set_option maxHeartbeats 2000000 in
theorem law_lookup (s u : ByteArray) (la iv : Int) (ao : Option Addr) (n cap : Nat) (S L P V : Nat → ByteArray) (w : World) (hs : s.size ≤ maxLen) (hu : u.size ≤ maxLen) (hn : n ≤ maxLen)
    (hk0 : -9223372036854775808 ≤ la) (hk1 : la ≤ 9223372036854775807) (hi0 : -9223372036854775808 ≤ iv) (hi1 : iv ≤ 9223372036854775807) (ha : Ats w ao n S L P V) :
    Calls Try.prog 8 #[.string s, .int .i64 la, .string u, .slice ao n cap, .int .i64 iv] w fun e w' => e = .returned (.bool true) ∧ Below w.heap.size w w' := by
  have HA := hide ha
  clear ha
  go_enter Try.func8, Try.ntmps8
  go_wp2_with fail
  refine (bytes35 s u la iv ao n cap S L P V w hs hu hn HA.out).mono ?_
  rintro e w1 ⟨b, rfl, rfl, hsm⟩
  unfold maxLen at hs hu hn
  cases b
  · clear hsm
    go_wp2
    go_ret
    exact ⟨by simp, Below.refl _ _⟩
  have HS := hide (hsm rfl)
  clear hsm
  by_cases h1 : (65536 : Int) < s.size
  · have hd : decide ((65536 : Int) < s.size) = true := by simpa using h1
    go_wp2
    go_ret
    exact ⟨by simp, Below.refl _ _⟩
  have hd1 : decide ((65536 : Int) < s.size) = false := by simpa using h1
  by_cases h2 : (65536 : Int) < u.size
  · have hd : decide ((65536 : Int) < u.size) = true := by simpa using h2
    go_wp2
    go_ret
    exact ⟨by simp, Below.refl _ _⟩
  have hd2 : decide ((65536 : Int) < u.size) = false := by simpa using h2
  by_cases h3 : (1024 : Int) < n
  · have hd : decide ((1024 : Int) < n) = true := by simpa using h3
    go_wp2
    go_ret
    exact ⟨by simp, Below.refl _ _⟩
  have hd3 : decide ((1024 : Int) < n) = false := by simpa using h3
  have hs3 : s.size ≤ 65536 := by omega
  have hu3 : u.size ≤ 65536 := by omega
  have hn3 : n ≤ 1024 := by omega
  clear h1 h2 h3
  go_wp2_with fail
  refine (attrsFit_any s u ao n cap S L P V w hs3 hu3 hn3 HA.out HS.out).mono ?_
  rintro e w1 ⟨b, rfl, hB1⟩
  have HB1 := hide hB1
  clear hB1 HS
  cases b
  · go_wp2
    go_ret
    exact ⟨by simp, HB1.out⟩
  go_wp2_with fail
  refine (qname_any s la _ hs3 hk0 hk1).mono ?_
  rintro e w2 ⟨b, rfl, rfl, hb⟩
  cases b
  · clear hb
    go_wp2
    go_ret
    exact ⟨by simp, HB1.out⟩
  have hF := hb rfl
  obtain ⟨la, rfl, hla⟩ := fine_nat hF
  clear hb hF hk0 hk1
  by_cases h1 : iv < 0
  · have hd : decide (iv < 0) = true := by simpa using h1
    go_wp2
    go_ret
    exact ⟨by simp, HB1.out⟩
  have hd4 : decide (iv < 0) = false := by simpa using h1
  by_cases h2 : (n : Int) ≤ iv
  · have hd : decide ((n : Int) ≤ iv) = true := by simpa using h2
    go_wp2
    go_ret
    exact ⟨by simp, HB1.out⟩
  have hd5 : decide ((n : Int) ≤ iv) = false := by simpa using h2
  obtain ⟨i, rfl⟩ : ∃ i : Nat, iv = i := ⟨iv.toNat, by omega⟩
  have hin : i < n := by omega
  clear h1 h2
  go_wp2_with fail
  refine (distinct_any ao n cap S L P V w1 hn3 (HA.out.keep HB1.out (Nat.le_refl _))).mono ?_
  rintro e w2 ⟨b, rfl, hB2, hD⟩
  have HB2 : Hid (Below w.heap.size w w2) := hide (HB1.out.trans (hB2.mono HB1.out.size))
  clear hB2 HB1
  cases b
  · clear hD
    go_wp2
    go_ret
    exact ⟨by simp, HB2.out⟩
  have HD := hide (hD rfl)
  clear hD
  go_wp2_with fail
  refine (build_any s u la ao n cap S L P V w2 hn3 (HA.out.keep HB2.out (Nat.le_refl _))).mono ?_
  rintro e w3 ⟨rfl, hbl, hB3⟩
  obtain ⟨bb, g, cap1, N, hel, b1, hrow⟩ := hbl.held (by omega)
  have e1 := hide hbl.e1
  have HB3 : Hid (Below w.heap.size w w3) := hide (HB2.out.trans (hB3.mono HB2.out.size))
  have HE := hide hel
  have HR := hide hrow
  have Hb1 := hide b1
  clear hbl hel hrow b1 hB3 HB2
  generalize w2.heap.size + 3 = eb at *
  generalize w2.heap.size + 2 = hb at *
  generalize w2.heap.size + 1 = tb at *
  go_wp2_with fail
  refine (without31 i w3 hin hn3 HE.out e1.out Hb1.out HR.out).mono ?_
  rintro e w4 ⟨rfl, ⟨bb2, ao2, cap2, hc⟩, hB4⟩
  have HC := hide hc
  have HE4 := hide (HE.out.keep hB4)
  have HB4 : Hid (Below w.heap.size w w4) := hide (HB3.out.trans (hB4.mono HB3.out.size))
  clear hc hB4 HE HB3 e1 HR Hb1
  generalize w3.heap.size = cb at *
  go_wp2_with fail
  have hct := count32 w4 HC.out
  rw [show ((n - 1 : Nat) : Int) = (n : Int) - 1 by omega] at hct
  refine hct.mono ?_
  rintro e w5 ⟨rfl, rfl⟩
  clear hct
  go_wp2_with fail
  have HA4 := hide (HA.out.keep HB4.out (Nat.le_refl _))
  clear HA hd1 hd2 hd3 hd4 hd5 hs hu hn hi0 hi1
  go_loopw [13] (fun j wr => ∃ (k : Nat), k ≤ n ∧ Hid (Below w4.heap.size w4 wr) ∧ j = .int .i64 (k : Int)) (fun j _ => n - (intOf j).toNat)
  case atStart => exact ⟨0, Nat.zero_le _, hide (Below.refl _ _), rfl⟩
  case round =>
    obtain ⟨k, hk, hB, rfl⟩ := hrel
    by_cases hlt : k < n
    · have HAr := hide (HA4.out.keep hB.out (Nat.le_refl _))
      obtain ⟨a, rfl, hab, ⟨h0, h1, h2, h3⟩, _⟩ := HAr.out k hlt
      have HCr := hide ((HC.out.keep hB.out).keep (Below.refl _ _).drew)
      by_cases hki : k = i
      · subst hki
        clear h2
        go_wp2_with fail
        go_region_held3 (fun w' => w'.cell? (a.add (k * 4)) = some (.string (S k)) ∧ w'.cell? ⟨(a.add (k * 4)).block, (a.add (k * 4)).off + 1, none⟩ = some (.string (L k))) (go_keep)
          (first
            | (go_at_call 37
               refine (find_dropped wr.drew hin hn3 HD.out HCr.out).mono ?_
               rintro e w7 ⟨⟨v, rfl⟩, hB7⟩
               have hB8 : Below w4.heap.size w4 w7 := hB.out.drew.trans (hB7.mono hB.out.drew.size)
               obtain ⟨a', ha', _, ⟨g0, g1, g2, g3⟩, _⟩ := HA4.out.keep hB8 (Nat.le_refl _) k hlt
               obtain rfl : a = a' := by simpa using ha'
               have HF := hide hB8
               clear hB7 hB8 ha' g2))
        go_wp2_with fail
        exact ⟨⟨k + 1, by omega, HF, by go_num⟩, by simp [intOf]; omega⟩
      · have hki' : ¬ ((k : Int) = (i : Int)) := by omega
        clear h2
        go_wp2_with fail
        go_region_held3 (fun w' => w'.cell? (a.add (k * 4)) = some (.string (S k)) ∧ w'.cell? ⟨(a.add (k * 4)).block, (a.add (k * 4)).off + 1, none⟩ = some (.string (L k))) (go_keep)
          (first
            | (go_at_call 37
               refine (find_kept wr.drew hin hn3 HD.out hlt hki HCr.out).mono ?_
               rintro e w7 ⟨rfl, hB7⟩
               have hB8 : Below w4.heap.size w4 w7 := hB.out.drew.trans (hB7.mono hB.out.drew.size)
               obtain ⟨a', ha', _, ⟨g0, g1, g2, g3⟩, _⟩ := HA4.out.keep hB8 (Nat.le_refl _) k hlt
               obtain rfl : a = a' := by simpa using ha'
               have HF := hide hB8
               clear hB7 hB8 ha' g2))
        go_wp2_with fail
        exact ⟨⟨k + 1, by omega, HF, by go_num⟩, by simp [intOf]; omega⟩
    · obtain rfl : k = n := by omega
      have HAr := hide (HA4.out.keep hB.out (Nat.le_refl _))
      obtain ⟨a, rfl, hab, ⟨h0, h1, h2, h3⟩, _⟩ := HAr.out i hin
      have HEr := hide ((HE4.out.keep hB.out).keep (Below.refl _ _).drew)
      clear h2
      go_wp2_with fail
      go_region_held3 (fun w' => w'.cell? (a.add (i * 4)) = some (.string (S i)) ∧ w'.cell? ⟨(a.add (i * 4)).block, (a.add (i * 4)).off + 1, none⟩ = some (.string (L i))) (go_keep)
        (first
          | (go_at_call 37
             refine (find_own wr.drew hin hn3 HD.out HEr.out).mono ?_
             rintro e w7 ⟨rfl, hB7⟩
             have hB8 : Below w4.heap.size w4 w7 := hB.out.drew.trans (hB7.mono hB.out.drew.size)
             obtain ⟨a', ha', _, ⟨g0, g1, g2, g3⟩, _⟩ := HA4.out.keep hB8 (Nat.le_refl _) i hin
             obtain rfl : a = a' := by simpa using ha'
             have HF := hide hB8
             clear hB7 hB8 ha' g2))
      go_wp2_with fail
      refine (qname34 w7 (HC.out.keep HF.out)).mono ?_
      rintro e w8 ⟨rfl, rfl⟩
      go_wp2_with fail
      go_ret
      exact ⟨by simp, HB4.out.trans (HF.out.mono HB4.out.size)⟩
end Go.Proofs.Qxb6614379a
