import Derived.Test.Qxb6614337aHolds
import Derived.Test.Qxb6614337aCopy
namespace Go.Proofs.Qxb6614337a
open Go.RowKit

theorem hide {p : Prop} (h : p) : Hid p := h
theorem unhide {p : Prop} (h : Hid p) : p := h

/-- What 'holds' answers at a number above aru: the entry at that place, false past the end. -/
def heldAt (bs : List Bool) (k : Nat) : Bool := bs.getD k false

/-- The commit in memory: its aru, its held, the entries of held. -/
def Cm (w : World) (b g : Nat) (ad : Option Addr) (aru : Int) (bs : List Bool) : Prop :=
  w.cell? ⟨b, 55, none⟩ = some (.int .u64 aru) ∧ w.cell? ⟨b, 56, none⟩ = some (.slice ad bs.length bs.length) ∧
  (0 < bs.length → ad = some ⟨g, 0, none⟩) ∧ ∀ k, k < bs.length → w.cell? ⟨g, k, none⟩ = some (.bool (heldAt bs k))

theorem cell_drewN (w : World) (n : Nat) (a : Addr) : (w.drewN n).cell? a = w.cell? a := by
  induction n generalizing w with
  | zero => rfl
  | succ n ih => first | exact ih _ | (simp [World.drewN, ih])

theorem Cm.drewN {w : World} {b g : Nat} {ad : Option Addr} {aru : Int} {bs : List Bool} (h : Cm w b g ad aru bs) (n : Nat) : Cm (w.drewN n) b g ad aru bs := by
  unfold Cm at *
  simpa only [cell_drewN] using h

/-- 'seq <= aru': true. -/
theorem zz_le (b g : Nat) (ad : Option Addr) (aru seq : Int) (bs : List Bool) (w : World) (hc : Cm w b g ad aru bs) (h0 : 0 ≤ seq) (h1 : seq ≤ aru) (h2 : aru ≤ 18446744073709551615) :
    Calls Try.prog 6 #[.pointer (some ⟨b, 0, none⟩), .int .u64 seq] w fun e w' => e = .returned (.bool true) ∧ ∃ n, w' = w.drewN n := by
  have hc1 := hc.1
  clear hc
  go_enter Try.func6, Try.ntmps6
  go_wp2_with (go_at_call 7; refine (holds_le b aru seq _ h0 h1 h2 hc1).mono ?_; rintro e w' ⟨rfl, n, rfl⟩)
  go_ret
  exact ⟨rfl, _, rfl⟩

/-- 'seq > aru': the entry. -/
theorem zz_gt (b g k : Nat) (ad : Option Addr) (aru seq : Int) (bs : List Bool) (w : World) (hc : Cm w b g ad aru bs) (h0 : 0 ≤ aru) (h1 : seq = aru + k + 1) (h2 : seq ≤ 18446744073709551615) (h4 : bs.length ≤ 1048576) :
    Calls Try.prog 6 #[.pointer (some ⟨b, 0, none⟩), .int .u64 seq] w fun e w' => e = .returned (.bool (heldAt bs k)) ∧ ∃ n, w' = w.drewN n := by
  obtain ⟨c1, c2, c3, c4⟩ := hc
  by_cases hk : k < bs.length
  · have hck := c4 k hk
    obtain rfl := c3 (by omega)
    have H1 : Hid (seq = aru + k + 1) := h1
    clear c3 c4 h1
    obtain ⟨bv, hbv⟩ : ∃ bv, bv = heldAt bs k := ⟨_, rfl⟩
    rw [← hbv] at hck ⊢
    clear hbv
    go_enter Try.func6, Try.ntmps6
    go_wp2_with (go_at_call 7; refine (holds_in b g k bs.length bv aru seq _ h0 h2 H1.out hk h4 c1 c2 hck).mono ?_; rintro e w' ⟨rfl, n, rfl⟩)
    go_ret
    exact ⟨rfl, _, rfl⟩
  · have hb : heldAt bs k = false := by simp [heldAt, List.getD, List.getElem?_eq_none (Nat.le_of_not_lt hk)]
    rw [hb]
    have h5 : aru < seq := by omega
    have h6 : (bs.length : Int) ≤ seq - aru - 1 := by omega
    clear c3 c4 h1 hb
    go_enter Try.func6, Try.ntmps6
    go_wp2_with (go_at_call 7; refine (holds_out b ad bs.length aru seq _ h0 h5 h2 h6 h4 c1 c2).mono ?_; rintro e w' ⟨rfl, n, rfl⟩)
    go_ret
    exact ⟨rfl, _, rfl⟩
end Go.Proofs.Qxb6614337a
