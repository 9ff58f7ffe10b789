import Derived.WalkKit
import Derived.WalkSpells
namespace Go.Proofs.Qxb6614337aFmt.Copied
open Go.RowKit

theorem setRow_alloc (w : World) (cur cs : Array Value) (t : TypeId) : (w.alloc (.cells cur t)).setRow w.heap.size cs = w.alloc (.cells cs t) := by
  have hh : ((w.alloc (.cells cur t)).setRow w.heap.size cs).heap = (w.alloc (.cells cs t)).heap := by
    apply Array.ext_getElem?
    intro k
    have e : ∀ o : Obj, (w.alloc o).heap = w.heap.push o := fun _ => rfl
    by_cases hk : k = w.heap.size
    · subst hk
      rw [setRow_heap _ _ cur cs t (0, 0) (by rw [e]; simp), e]
      simp
    · rw [setRow_other _ _ _ _ hk, e, e]
      simp [Array.getElem?_push, hk]
  have ext : ∀ a b : World, a.heap = b.heap → a.tape = b.tape → a.drawn = b.drawn → a.os = b.os → a.output = b.output → a = b := by
    intro a b h1 h2 h3 h4 h5
    cases a; cases b; simp_all
  exact ext _ _ hh rfl rfl rfl rfl

variable {P : Program}
/-- 'copy(made, src)' where 'made' has just been laid with the source's length: the new block then holds the source's cells. -/
theorem run_copy_made (w : World) (T ty E : TypeId) (a : Addr) (n cap : Nat) (cur : Array Value) (cs : List Value)
    (hu : P.underlying T = some (.slice E)) (hs : (P.info? E).map (·.size) = some 1) (hcur : cur.size = n) (hlen : cs.length = n)
    (hsrc : ∀ j v, cs[j]? = some v → w.cell? (a.add j) = some v) (h1 : ∀ v ∈ cs, v.oneCell' = true) :
    (Builtin.copy_ #[T, T] ty #[.slice (some ⟨w.heap.size, 0, none⟩) n n, .slice (some a) n cap]).run P (w.alloc (.cells cur E)) =
      .ok (goInt n) (w.alloc (.cells cs.toArray E)) := by
  have e : ∀ o : Obj, (w.alloc o).heap = w.heap.push o := fun _ => rfl
  have hg : (w.alloc (.cells cur E)).heap[w.heap.size]? = some (.cells cur E (0, 0)) := by rw [e]; simp
  have hsrc' : ∀ j v, cs[j]? = some v → (w.alloc (.cells cur E)).cell? (a.add j) = some v := by
    intro j v h
    have hc := hsrc j v h
    rw [World.cell?_alloc_old]
    · exact hc
    · intro hb
      rw [World.cell?, hb] at hc
      simp at hc
  have hrun := run_copy_row P (w.alloc (.cells cur E)) T T ty E w.heap.size 0 n n a n cap cur E cs hu hs hg (by simp [hlen]) hsrc' (by simp [hlen, hcur]) h1
  rw [hrun, setRow_alloc, hlen]
  congr 3
  simp [← hcur]
end Go.Proofs.Qxb6614337aFmt.Copied
