import Derived.Test.Qxb6614339aMake
namespace Go.Proofs.Qxb6614339a
open Go.RowKit
set_option linter.unusedVariables false

/-- The weight of the argument that a depth makes. -/
def kOf (d : Int) : Int := if d < 0 then -1 else 4 * d

/-- Each argument weighs what it should in every world that is as w from B on, but for the command's own node and list. -/
def ArgsOK (B m g : Nat) (w : World) (args : List Value) (ks : Nat → Int) : Prop :=
  ∀ i, i < args.length → ∀ w' : World, (∀ b, B ≤ b → b < w.heap.size → b ≠ m → b ≠ g → w'.heap[b]? = w.heap[b]?) → Gives 18 (args.getD i .nilIface) w' (ks i)

theorem args_step {B m g g' : Nat} {args : List Value} {x : Value} {bs : List Nat} {ks : Nat → Int} {w w1 w2 : World} (h : ArgsOK B m g w args ks) (hb : Below w.heap.size w w1) (ht : Two m g w1 w2)
    (hg' : g' = g ∨ (w1.heap.size ≤ g' ∧ g' ∉ bs)) (hx : ∀ w' : World, (∀ b, B ≤ b → b < w2.heap.size → b ≠ m → b ≠ g' → w'.heap[b]? = w2.heap[b]?) → Gives 18 x w' (ks args.length)) :
    ArgsOK B m g' w2 (args ++ [x]) ks := by
  intro i hi w' hw'
  by_cases e : i = args.length
  · subst e
    have : (args ++ [x]).getD args.length .nilIface = x := by simp
    rw [this]
    exact hx w' hw'
  · have hi2 : i < args.length := by simp at hi; omega
    have : (args ++ [x]).getD i .nilIface = args.getD i .nilIface := by simp [List.getD, hi2, List.getElem?_append_left]
    rw [this]
    refine h i hi2 w' fun b hB hlt hm hg => ?_
    have h1 := hb.size
    have h2 := ht.size
    rw [hw' b hB (by omega) hm (by rcases hg' with e | ⟨e, _⟩ <;> omega), ht.block b (by omega) hm hg]
    exact hb.block b hlt

/-- 'first args..' as zzCommandOf has it behind j depths. -/
structure Made (B : Nat) (s : ByteArray) (ds : Nat → Int) (w0 w : World) (j : Nat) : Prop where
  bel : Below B w0 w
  cmd : ∃ g cap args, CmdAt w (B + 2) g B s args cap ∧ args.length = j ∧ B ≤ g ∧ ArgsOK B (B + 2) g w args (fun i => kOf (ds i))

theorem made_start {w w1 : World} (s : ByteArray) (ds : Nat → Int) (hc : CmdAt w1 (w.heap.size + 2) (w.heap.size + 1) w.heap.size s [] 1) (hb : Below w.heap.size w w1) : Made w.heap.size s ds w w1 0 :=
  ⟨hb, _, _, [], hc, rfl, by omega, fun i hi => by simp at hi⟩

theorem made_field {B : Nat} {s : ByteArray} {ds : Nat → Int} {w0 w w2 : World} {j g cap : Nat} {args : List Value} (hB : B ≤ w.heap.size) (hbel : Below B w0 w) (hc : CmdAt w (B + 2) g B s args cap) (hl : args.length = j) (hg : B ≤ g)
    (ha : ArgsOK B (B + 2) g w args (fun i => kOf (ds i))) (hd : ds j < 0) (h : Added (B + 2) g B s args (.iface 54 (.pointer (some ⟨w.heap.size + 1, 0, none⟩))) [w.heap.size, w.heap.size + 1] w w2) : Made B s ds w0 w2 (j + 1) := by
  obtain ⟨g', cap', hcmd, hg'⟩ := h.cmd
  refine ⟨hbel.trans (h.two.below (by omega) hg hB), g', cap', _, hcmd, by simp [hl], by rcases hg' with e | ⟨e, _⟩ <;> omega, ?_⟩
  refine args_step ha (Below.refl _ _) h.two hg' fun w' _ => ?_
  show Gives 18 _ w' (kOf (ds args.length))
  rw [hl, kOf, if_pos hd]
  exact weight_field _ w'

theorem made_pipe {B : Nat} {s : ByteArray} {ds : Nat → Int} {w0 w w1 w2 : World} {j g cap : Nat} {args : List Value} {p : Addr} (hB : B ≤ w.heap.size) (hbel : Below B w0 w) (hc : CmdAt w (B + 2) g B s args cap) (hl : args.length = j) (hg : B ≤ g)
    (ha : ArgsOK B (B + 2) g w args (fun i => kOf (ds i))) (hd : 0 ≤ ds j) (hp : CmdR w.heap.size w1.heap.size w1 p (4 * ds j)) (hb1 : Below w.heap.size w w1)
    (h : Added (B + 2) g B s args (.iface 35 (.pointer (some ⟨w1.heap.size + 1, 0, none⟩))) [w1.heap.size, w1.heap.size + 1] w1 w2)
    (q1 : w2.cell? ⟨w1.heap.size + 1, 6, none⟩ = some (.slice (some ⟨w1.heap.size, 0, none⟩) 1 1)) (q2 : w2.cell? ⟨w1.heap.size, 0, none⟩ = some (.pointer (some p))) (q3 : w1.heap.size + 3 ≤ w2.heap.size) : Made B s ds w0 w2 (j + 1) := by
  obtain ⟨g', cap', hcmd, hg'⟩ := h.cmd
  have s1 := hb1.size
  have lm := lt_of_heap hc.node
  have lg : g < w.heap.size := by obtain ⟨cur, q, _⟩ := hc.row; exact lt_of_heap q
  refine ⟨(hbel.trans (hb1.mono hB)).trans (h.two.below (by omega) hg (by omega)), g', cap', _, hcmd, by simp [hl], by rcases hg' with e | ⟨e, _⟩ <;> omega, ?_⟩
  refine args_step ha hb1 h.two hg' fun w' hw' => ?_
  show Gives 18 _ w' (kOf (ds args.length))
  rw [hl, kOf, if_neg (by omega)]
  have n1 : w1.heap.size ≠ g' := by
    rcases hg' with e | ⟨e, e2⟩
    · omega
    · intro e3; exact e2 (by simp [e3])
  have n2 : w1.heap.size + 1 ≠ g' := by
    rcases hg' with e | ⟨e, e2⟩
    · omega
    · intro e3; exact e2 (by simp [e3])
  refine weight_pipe (w1.heap.size + 1) w1.heap.size p _ w' (by omega) ?_ ?_ ?_
  · exact (World.cell?_of_block (hw' (w1.heap.size + 1) (by omega) (by omega) (by omega) n2)).trans q1
  · exact (World.cell?_of_block (hw' w1.heap.size (by omega) (by omega) (by omega) n1)).trans q2
  · refine hp w' fun b x y => ?_
    have hbg : b ≠ g' := by rcases hg' with e | ⟨e, _⟩ <;> omega
    rw [hw' b (by omega) (by omega) (by omega) hbg]
    exact h.two.block b y (by omega) (by omega)

theorem Made.cmdR {B : Nat} {s : ByteArray} {ds : Nat → Int} {w0 w : World} {j : Nat} (h : Made B s ds w0 w j) (hj : j ≤ 65536) (hd : ∀ i, i < j → ds i ≤ 65536) : CmdR B w.heap.size w ⟨B + 2, 0, none⟩ (best (baseOf s) (fun i => kOf (ds i)) j) := by
  obtain ⟨hb, g, cap, args, hc, hl, hg, ha⟩ := h
  subst hl
  intro w' hw'
  have lm := lt_of_heap hc.node
  have li := lt_of_heap hc.id
  have lg : g < w.heap.size := by obtain ⟨cur, q, _⟩ := hc.row; exact lt_of_heap q
  have hc' := hc.same (hw' _ (by omega) li) (hw' _ (by omega) lm) (hw' _ hg lg)
  refine hc'.gives _ (by omega) (fun i hi => ha i hi w' fun b x y _ _ => hw' b x y) fun i hi => ?_
  have := hd i hi
  show -1 ≤ kOf (ds i) ∧ kOf (ds i) ≤ 900000
  unfold kOf
  split <;> omega

theorem kOf_neg {d : Int} (h : d < 0) : wth 4 (kOf d) = -1 := by simp [kOf, wth, h]
theorem kOf_pos {d : Int} (h : 0 ≤ d) : wth 4 (kOf d) = 4 * d + 4 := by
  rw [kOf, if_neg (by omega), wth, if_neg (by omega)]; omega

set_option maxHeartbeats 2000000 in
theorem commandOf_any (s : ByteArray) (a : Option Addr) (len cap : Nat) (ds : Nat → Int) (w : World) (hl : len ≤ 65536) (hD : Depths w a len ds) (hd : ∀ i, i < len → ds i ≤ 65536) :
    Calls Try.prog 7 #[.string s, .slice a len cap] w fun e w' => e = .returned (.tuple #[.pointer (some ⟨w.heap.size + 2, 0, none⟩), .int .i64 (best (baseOf s) (fun i => kOf (ds i)) len)]) ∧
      Made w.heap.size s ds w w' len := by
  have hcase : ((s.toList == [105, 110, 99, 108, 117, 100, 101]) = true ∧ baseOf s = 0) ∨ ((s.toList == [105, 110, 99, 108, 117, 100, 101]) = false ∧ (s.toList == [116, 112, 108]) = true ∧ baseOf s = 0) ∨ ((s.toList == [105, 110, 99, 108, 117, 100, 101]) = false ∧ (s.toList == [116, 112, 108]) = false ∧ baseOf s = -1) := by
    unfold baseOf isCall
    cases (s.toList == [105, 110, 99, 108, 117, 100, 101]) <;> cases (s.toList == [116, 112, 108]) <;> simp
  have HBD := hide (fun j hj => best_bd (M := 262144) (by omega) (baseOf_bd s) j (fun i hi => by
    have := hd i (Nat.lt_of_lt_of_le hi hj)
    show -1 ≤ kOf (ds i) ∧ kOf (ds i) ≤ 262144
    unfold kOf; split <;> omega) : ∀ j, j ≤ len → -1 ≤ best (baseOf s) (fun i => kOf (ds i)) j ∧ best (baseOf s) (fun i => kOf (ds i)) j ≤ 4 + 262144)
  have HD := hide hD
  have Hd := hide hd
  clear hD hd
  rcases hcase with ⟨t1, T⟩ | ⟨t1, t2, T⟩ | ⟨t1, t2, T⟩
  all_goals
    replace T := hide T
    go_enter Try.func7, Try.ntmps7
    go_wp2_with fail
    refine (ident_any _ _).mono ?_
    rintro e w1 ⟨rfl, hc1, hb1, hs1⟩
    have M0 := hide (made_start s ds hc1 hb1)
    clear hc1 hb1 hs1
    go_wp2_with fail
    go_loopw [6, 20] (fun wt i wr => ∃ j : Nat, j ≤ len ∧ i = .int .i64 (j : Int) ∧ wt = .int .i64 (best (baseOf s) (fun i => kOf (ds i)) j) ∧ Hid (Made w.heap.size s ds w wr j)) (fun _ i _ => len - (intOf i).toNat)
    case atStart => exact ⟨0, Nat.zero_le _, rfl, by rw [best, unhide T], M0⟩
    case round =>
      obtain ⟨j, hj, rfl, rfl, MJ⟩ := hrel
      clear M0
      have hbj := HBD.out j hj
      by_cases hlt : (j : Int) < len
      · rcases HD.out with h | ⟨b, off, rfl, hbw, hc⟩
        · omega
        · have hcj0 := (hc j (by omega)).1
          have hdj := Hd.out j (by omega)
          have hlo := (hc j (by omega)).2.1
          have hcj : wr.cell? ⟨b, off + j, none⟩ = some (.int .i64 (ds j)) := (MJ.out.bel.cell (p := ⟨b, off + j, none⟩) hbw).trans hcj0
          have HB := hide MJ.out.bel.size
          obtain ⟨g, cp, args, hcm, hal, hgb, hao⟩ := MJ.out.cmd
          have HCM := hide hcm
          have HAL := hide hal
          have HAO := hide hao
          clear hc hcj0 hcm hal hao
          by_cases c1 : ds j < 0
          · have HE := hide (best_no (b := baseOf s) (ks := fun i => kOf (ds i)) (j := j) (by show ¬ _ < wth 4 (kOf (ds j)); rw [kOf_neg c1]; omega))
            go_wp2_with fail
            refine (addField_any _ _ _ _ _ _ _ HCM.out (by rw [HAL.out]; omega)).mono ?_
            rintro e w3 ⟨rfl, ha3⟩
            have M1 := hide (made_field HB.out MJ.out.bel HCM.out HAL.out hgb HAO.out c1 ha3)
            clear ha3 HAO HCM HAL MJ
            go_wp2
            go_roundw
            case rel => exact ⟨j + 1, by omega, by go_num, by rw [unhide HE], M1⟩
            case measure => simp [intOf]; omega
          · have c2 : 0 ≤ ds j := by omega
            clear c1
            have HKP : Hid (wth 4 (kOf (ds j)) = 4 * ds j + 4) := hide (kOf_pos c2)
            obtain ⟨dn, hdn⟩ := Int.eq_ofNat_of_zero_le c2
            have HDN := hide hdn
            rw [hdn] at hcj
            have hdn2 : dn ≤ 65536 := by omega
            clear hdn c2 hdj hlo
            go_wp2_with fail
            refine (nested_any dn hdn2 _).mono ?_
            rintro e w3 ⟨p, rfl, hp, hb3⟩
            have hcm3 : CmdAt w3 (w.heap.size + 2) g w.heap.size s args cp := by
              have h := HCM.out
              refine h.same (hb3.block _ (lt_of_heap h.id)) (hb3.block _ (lt_of_heap h.node)) (hb3.block _ ?_)
              obtain ⟨cur, q, _⟩ := h.row
              exact lt_of_heap q
            have HP := hide hp
            have HC3 := hide hcm3
            clear hp hcm3
            go_wp2_with fail
            refine (addPipe_any _ _ _ _ p _ _ _ HC3.out (by rw [HAL.out]; omega)).mono ?_
            rintro e w4 ⟨rfl, ha4, q1, q2, q3⟩
            have M1 := hide (made_pipe HB.out MJ.out.bel HCM.out HAL.out hgb HAO.out (by rw [HDN.out]; omega) (by rw [HDN.out]; exact HP.out) hb3 ha4 q1 q2 q3)
            clear ha4 q1 q2 q3 HAO HCM HAL MJ HC3 HP hb3
            by_cases c3 : best (baseOf s) (fun i => kOf (ds i)) j < 4 * (dn : Int) + 4
            · have HE := hide (best_yes (b := baseOf s) (ks := fun i => kOf (ds i)) (j := j) (by show _ < wth 4 (kOf (ds j)); rw [HKP.out, HDN.out]; exact c3))
              have HE2 : Hid (best (baseOf s) (fun i => kOf (ds i)) (j + 1) = 4 * (dn : Int) + 4) := hide ((unhide HE).trans (by show wth 4 (kOf (ds j)) = _; rw [HKP.out, HDN.out]))
              clear HE
              go_wp2
              go_roundw
              case rel => exact ⟨j + 1, by omega, by go_num, by rw [unhide HE2], M1⟩
              case measure => simp [intOf]; omega
            · have HE := hide (best_no (b := baseOf s) (ks := fun i => kOf (ds i)) (j := j) (by show ¬ _ < wth 4 (kOf (ds j)); rw [HKP.out, HDN.out]; exact c3))
              go_wp2
              go_roundw
              case rel => exact ⟨j + 1, by omega, by go_num, by rw [unhide HE], M1⟩
              case measure => simp [intOf]; omega
      · obtain rfl : j = len := by omega
        go_wp2
        go_ret2
        exact ⟨by simp, MJ.out⟩
end Go.Proofs.Qxb6614339a
