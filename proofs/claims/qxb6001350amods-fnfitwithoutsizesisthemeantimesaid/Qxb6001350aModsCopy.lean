/-
  'zzc := make([]T, len(xs)); copy(zzc, xs)': what it leaves; small facts that the laws 9 and 10 share.
-/
import Derived.Test.Qxb6001350aModsZFit
import Derived.Test.Qxb6001350aModsLaw3
namespace Go.Proofs.Qxb6001350aMods
open Go.RowKit Fl

theorem setRow_alloc (w : World) (c d : Array Value) (e : TypeId) : (w.alloc (.cells c e)).setRow w.heap.size d = w.alloc (.cells d e) := by
  unfold World.setRow World.alloc
  congr 1
  apply Array.ext_getElem?
  intro i
  rw [Array.getElem?_modify]
  by_cases h : w.heap.size = i
  · subst h; simp
  · rw [if_neg h]
    rcases Nat.lt_or_ge i w.heap.size with h1 | h1
    · rw [Array.getElem?_push_lt h1, Array.getElem?_push_lt h1]
    · rw [Array.getElem?_eq_none (by simp; omega), Array.getElem?_eq_none (by simp; omega)]

theorem heap_new (w : World) (o : Obj) : (w.alloc o).heap[w.heap.size]? = some o := by
  unfold World.alloc; simp

theorem copy_new {P : Program} (w : World) (T ty e : TypeId) (z : Value) (n b off cap : Nat) (cs : List Value) (hu : P.underlying T = some (.slice e)) (hs : (P.info? e).map (·.size) = some 1)
    (hl : cs.length = n) (hb : b < w.heap.size) (hsrc : ∀ i v, cs[i]? = some v → w.cell? ⟨b, off + i, none⟩ = some v) (h1 : ∀ v ∈ cs, v.oneCell' = true) :
    (Builtin.copy_ #[T, T] ty #[.slice (some ⟨w.heap.size, 0, none⟩) n n, .slice (some ⟨b, off, none⟩) n cap]).run P (w.alloc (.cells (madeCells #[z] n) e)) = .ok (goInt n) (w.alloc (.cells cs.toArray e)) := by
  have h := run_copy_row (P := P) (w.alloc (.cells (madeCells #[z] n) e)) T T ty e w.heap.size 0 n n ⟨b, off, none⟩ n cap (madeCells #[z] n) e cs hu hs (heap_new w _) (by rw [hl]; simp)
    (fun j v hv => by rw [addr_add]; exact (World.cell?_alloc_past _ _ _ hb).trans (hsrc j v hv)) (by rw [size_madeCells]; omega) h1
  rw [h, setRow_alloc]
  have e1 : (madeCells #[z] n).toList.drop (0 + cs.length) = [] := by
    rw [List.drop_eq_nil_iff]
    simp [size_madeCells]; omega
  rw [List.take_zero, e1, hl]
  simp
end Go.Proofs.Qxb6001350aMods
