import Derived.Test.Qxb6614379aLawC
import Derived.WalkKit
import Derived.ProofKit
import Derived.OpenShut
import Derived.ShutString
import Derived.ChangeOld
import Derived.Below
import Derived.Deep.Slices
namespace Go.Proofs.Qxb6614379a.fnWithoutLookupFindsAllButDropped
open Go.ChangeShapes Go.WideShapes Go.ChangeAt Go.RowKit
open Go.ChangeMaps (open_string shut_string)
set_option linter.unusedVariables false

theorem own : ownKnob Try.prog.godebug = none := by kernel_rfl
theorem laidOut : laidOutB Try.prog = true := by kernel_rfl
theorem cells61 : Try.prog.cellsOf 61 = 4 := by kernel_rfl
theorem cells9 : Try.prog.cellsOf 9 = 1 := by kernel_rfl

theorem list4 {α : Type} {l : List α} (h : l.length = 4) : ∃ a b c d, l = [a, b, c, d] := by
  match l, h with
  | [a, b, c, d], _ => exact ⟨a, b, c, d, rfl⟩

theorem one_attr {H : Type} {enc : TypeId × Value → H} {w : World} {base : Nat} {spare : Nat → Bool} {held : Bool} {fuel : Nat} {a : Addr} {cs : List Value} {x : DataW H × List MemPlace} (h1 : w.cells? base a 4 = some cs) (h2 : DataW.trod enc Try.prog w base spare held fuel 61 cs = some x) :
    ∃ q : ByteArray × ByteArray × ByteArray × ByteArray, (w.cell? a = some (.string q.1) ∧ w.cell? (a.add 1) = some (.string q.2.1) ∧ w.cell? (a.add 2) = some (.string q.2.2.1) ∧ w.cell? (a.add 3) = some (.string q.2.2.2)) ∧ (q.1.size ≤ maxLen ∧ q.2.1.size ≤ maxLen ∧ q.2.2.1.size ≤ maxLen ∧ q.2.2.2.size ≤ maxLen) := by
  obtain ⟨_, hlen, hcell⟩ := World.cells?_some h1
  obtain ⟨xs, k, hk, hxy, _, hxl, hf⟩ := DataW.trod_struct Try.underlying61 h2
  have hxl4 : xs.length = 4 := hxl
  obtain ⟨y0, y1, y2, y3, rfl⟩ := list4 hxl4
  obtain ⟨v0, v1, v2, v3, rfl⟩ := list4 hlen
  have g0 := hf 0 _ rfl
  have g1 := hf 1 _ rfl
  have g2 := hf 2 _ rfl
  have g3 := hf 3 _ rfl
  simp [cells9] at g0 g1 g2 g3
  obtain ⟨s0, e0, _, z0⟩ := DataW.trod_string Try.underlying9 g0
  obtain ⟨s1, e1, _, z1⟩ := DataW.trod_string Try.underlying9 g1
  obtain ⟨s2, e2, _, z2⟩ := DataW.trod_string Try.underlying9 g2
  obtain ⟨s3, e3, _, z3⟩ := DataW.trod_string Try.underlying9 g3
  simp at e0 e1 e2 e3
  subst e0 e1 e2 e3
  have c0 := hcell 0 (by omega)
  have c1 := hcell 1 (by omega)
  have c2 := hcell 2 (by omega)
  have c3 := hcell 3 (by omega)
  exact ⟨(s0, s1, s2, s3), ⟨by simpa [Addr.add] using c0, c1, c2, c3⟩, z0, z1, z2, z3⟩

theorem ats_of {H : Type} {enc : TypeId × Value → H} {w : World} {base : Nat} {spare : Nat → Bool} {held : Bool} {fuel : Nat} {ao : Option Addr} {n cap : Nat} {x : DataW H × List MemPlace} (h : DataW.trod enc Try.prog w base spare held fuel 53 [.slice ao n cap] = some x) :
    n ≤ maxLen ∧ ∃ S L P V : Nat → ByteArray, Ats w ao n S L P V := by
  rcases Deep.open_slice Try.underlying53 h with ⟨hcs, _⟩ | ⟨a, len, cap', m, k, D, Pl, hcs, hb, hl, hm, hmm, rfl, hx⟩
  · simp at hcs
    obtain ⟨rfl, rfl, rfl⟩ := hcs
    exact ⟨Nat.zero_le _, fun _ => ByteArray.empty, fun _ => ByteArray.empty, fun _ => ByteArray.empty, fun _ => ByteArray.empty, fun k hk => absurd hk (Nat.not_lt_zero _)⟩
  · simp at hcs
    obtain ⟨rfl, rfl, rfl⟩ := hcs
    have hnm : n ≤ m := by rw [hmm]; split <;> omega
    rw [cells61] at hx
    obtain ⟨q, hq⟩ := Deep.choose_lt (n := n) (fun i hi => by
      obtain ⟨cs', h1, h2⟩ := hx i (by omega)
      exact one_attr h1 h2)
    refine ⟨by omega, fun k => (q k).1, fun k => (q k).2.1, fun k => (q k).2.2.1, fun k => (q k).2.2.2, fun k hk => ⟨a, rfl, ?_, (hq k hk).1, (hq k hk).2⟩⟩
    have := World.block_lt_of_cell? w _ (hq k hk).1.1
    rwa [add_block] at this

theorem walk (a0 : ByteArray) (a1 : Int) (a2 : ByteArray) (a3 : Option Addr) (n cap : Nat) (a4 : Int) (S L P V : Nat → ByteArray) (w0 : a0.size ≤ maxLen) (w1 : (Lit.int .i64 a1).wf = true) (w2 : a2.size ≤ maxLen) (w4 : (Lit.int .i64 a4).wf = true) (w : World) (hn : n ≤ maxLen) (w3 : Ats w a3 n S L P V) :
    Calls Try.prog 8 #[.string a0, .int .i64 a1, .string a2, .slice a3 n cap, .int .i64 a4] w fun e w' => e = .returned (.bool true) ∧ Below w.heap.size w w' := by
  have hb := bounds_i64 w1
  have hb4 := bounds_i64 w4
  exact law_lookup a0 a2 a1 a4 a3 n cap S L P V w w0 w2 hn hb.1 hb.2 hb4.1 hb4.2 w3

set_option maxRecDepth 100000 in
theorem lifted (os : Os) (started : os.Started) (H : Type) (enc : TypeId × Value → H) :
    ReturnsInHanded {} Try.checked os 8 .any (Rows.fnWithoutLookupFindsAllButDroppedSpec.pre6 enc Try.prog Try.f8 Rows.fnWithoutLookupFindsAllButDroppedRow.domain false) (Rows.fnWithoutLookupFindsAllButDroppedSpec.post enc Try.prog Try.f8 false true false false) := by
  refine returnsInHanded_of_change (C := Try.checked) own started (by kernel_rfl) Try.func8
    (ChangeSpec.witness6 (enc := enc) (C := Try.checked) false ⟨#[], #[.string ByteArray.empty, .int .i64 0, .string ByteArray.empty, .slice none 0 0, .int .i64 0], []⟩ 8 (by kernel_rfl) (by kernel_rfl) (by kernel_rfl) (by kernel_rfl)) ?_
  intro W base args ds gs before hval0 hW hcnd _
  have hval : ∀ (j : Nat) t v, Try.f8.params[j]? = some t → args[j]? = some v → Value.okWide Try.prog W .any base t v := hval0
  have hW' := hW
  obtain ⟨p, q, hA0, hV, rfl, hfz, hnd⟩ := hW
  have hA : DataW.TrodAll enc Try.prog W 0 (fun _ => true) true Try.f8.params.toList args.toList ds p := hA0
  rw [Try.params8] at hA hval
  obtain ⟨v0, vs0, d0, ds0, p0, q0, hargs, rfl, rfl, h0, r0⟩ := trodAll_cons hA
  obtain ⟨v1, vs1, d1, ds1, p1, q1, rfl, rfl, rfl, h1, r1⟩ := trodAll_cons r0
  obtain ⟨v2, vs2, d2, ds2, p2, q2, rfl, rfl, rfl, h2, r2⟩ := trodAll_cons r1
  obtain ⟨v3, vs3, d3, ds3, p3, q3, rfl, rfl, rfl, h3, r3⟩ := trodAll_cons r2
  obtain ⟨v4, vs4, d4, ds4, p4, q4, rfl, rfl, rfl, h4, r4⟩ := trodAll_cons r3
  obtain ⟨rfl, rfl, rfl⟩ := trodAll_nil r4
  obtain rfl : args = #[v0, v1, v2, v3, v4] := by cases args; simp_all
  obtain ⟨rfl, rfl⟩ := trodVars_none hV
  obtain ⟨a0, rfl, rfl, rfl, w0⟩ := open_string Try.underlying9 (hval 0 9 v0 rfl rfl) h0
  obtain ⟨a1, rfl, rfl, rfl, w1⟩ := open_int Try.underlying3 (hval 1 3 v1 rfl rfl) h1
  obtain ⟨a2, rfl, rfl, rfl, w2⟩ := open_string Try.underlying9 (hval 2 9 v2 rfl rfl) h2
  obtain ⟨a3, n, cap, rfl⟩ := okWide_slice Try.underlying53 (hval 3 53 v3 rfl rfl)
  obtain ⟨a4, rfl, rfl, rfl, w4⟩ := open_int Try.underlying3 (hval 4 3 v4 rfl rfl) h4
  have k3 := h3
  have lt3 : ∀ x ∈ p3, x.block < W.heap.size := by obtain ⟨m, hm⟩ := k3; exact DataW.trod_lt m _ _ _ hm
  obtain ⟨hn, S, L, P, V, w3⟩ : n ≤ maxLen ∧ ∃ S L P V : Nat → ByteArray, Ats W a3 n S L P V := by
    obtain ⟨fuel, hf⟩ := h3
    exact ats_of hf
  clear hA0 hval0
  refine (walk a0 a1 a2 a3 n cap a4 S L P V w0 w1 w2 w4 W hn w3).mono fun e W' ⟨he, bel⟩ => ?_
  subst he
  exact ⟨_, rfl, _, _, _, [], _, [], hW', trodAll_mk1 (shut_bool Try.underlying4 _), (trodAll_cons_mk (shut_string Try.underlying9 w0) (trodAll_cons_mk (shut_int Try.underlying3 w1) (trodAll_cons_mk (shut_string Try.underlying9 w2) (trodAll_cons_mk (Below.trod laidOut (by kernel_rfl) (of_decide_eq_true (by kernel_rfl)) k3 bel lt3) (trodAll_cons_mk (shut_int Try.underlying3 w4) trodAll_mk0))))), rfl, bel.frame _, fun h => by cases h⟩

theorem over : Rows.fnWithoutLookupFindsAllButDroppedRow.holds Try.pinned (OpenSpec.ofChange Rows.fnWithoutLookupFindsAllButDroppedSpec) :=
  OpenClaim.holds_of_wide 8 Try.f8 rfl rfl rfl rfl rfl rfl rfl ⟨rfl, rfl, rfl, rfl, rfl⟩ rfl rfl rfl rfl rfl (by kernel_rfl) Try.func8 (by kernel_rfl)
    (of_decide_eq_true (by kernel_rfl)) (by unfold Func.isWrapper; first | (rw [if_pos (by decide +kernel)]; kernel_rfl) | (rw [if_neg (by decide +kernel)]; exact ⟨rfl, rfl⟩))
    (fun os started H enc _ => lifted os started H enc)

theorem proved : Rows.FnWithoutLookupFindsAllButDroppedSaid :=
  over
end Go.Proofs.Qxb6614379a.fnWithoutLookupFindsAllButDropped
