/-
  The plain law under FnFitWithoutSizesIsTheMeanTime: what fit comes to where all sizes are nought.
-/
import Derived.Test.Qxb6001350aModsPlain9
namespace Go.Proofs.Qxb6001350aMods.Fl
open Ieee

theorem fits_zero (rows : List (Nat × Nat)) (h0 : 0 < rows.length) (hl : rows.length ≤ 65536) (hrows : ∀ r ∈ rows, r.1 = 0) : FitsTo rows (tmA rows) (some 0) := by
  obtain ⟨sm, esm, nsm⟩ : ∃ sm, smA rows = some sm ∧ NI sm 0 := by
    unfold smA
    rw [eq_replicate rows _ (F (0 : Int)) (fun r hr => by rw [hrows r hr]; rfl)]
    exact mean_const rows.length 0 h0 hl (by decide)
  have nF : NI (F (0 : Int)) 0 := F_ni 0 (by decide)
  obtain ⟨gs, egs, ngs⟩ : ∃ gs, accA (gsF (smA rows)) rows = some gs ∧ NI gs 0 := by
    rw [esm]
    refine acc_ni _ rows fun r hr => ?_
    obtain ⟨d, e1, n1⟩ := sub_ni nF nsm (by decide)
    obtain ⟨q, e2, n2⟩ := mul_ni n1 n1 (by decide)
    refine ⟨q, ?_, n2⟩
    have k1 : subA (some (F (r.1 : Int))) (some sm) = some d := by rw [hrows r hr]; exact e1
    unfold gsF
    rw [k1]; exact e2
  obtain ⟨sq, esq, nsq⟩ : ∃ sq, accA sqF rows = some sq ∧ NI sq 0 := by
    refine acc_ni _ rows fun r hr => ?_
    obtain ⟨q, e2, n2⟩ := mul_ni nF nF (by decide)
    refine ⟨q, ?_, n2⟩
    unfold sqF
    rw [hrows r hr]; exact e2
  refine .inr (.inl ⟨?_, ?_, rfl, rfl⟩)
  · rw [egs]
    show double.order gs 0 ≠ some .gt
    rw [ord_ni ngs zero_ni]
    decide
  · rw [esq]
    show double.order sq 0 ≠ some .gt
    rw [ord_ni nsq zero_ni]
    decide

theorem div_nf {x y r : Nat} (h : double.div x y = some r) : NF r := by
  unfold Format.div at h
  generalize double.read x = a at h
  generalize double.read y = b at h
  cases a with
  | nan => cases b <;> simp [Datum.quotient] at h
  | infinity s =>
    cases b with
    | nan => simp [Datum.quotient] at h
    | infinity => simp [Datum.quotient] at h
    | number t n j =>
      simp only [Datum.quotient, Option.map_some, Option.some.injEq] at h
      subst h
      exact .inr ⟨_, inf_read _⟩
  | number s m i =>
    cases b with
    | nan => simp [Datum.quotient] at h
    | infinity t =>
      simp only [Datum.quotient, Option.map_some, Option.some.injEq] at h
      subst h
      exact near_nf _ _ _
    | number t n j =>
      simp only [Datum.quotient] at h
      split at h
      · split at h
        · simp at h
        · simp only [Option.map_some, Option.some.injEq] at h
          subst h
          exact .inr ⟨_, inf_read _⟩
      · simp only [Option.map_some, Option.some.injEq] at h
        subst h
        exact near_nf _ _ _

theorem ord_self {x : Nat} (h : NF x) : double.order x x = some .eq := by
  rcases h with ⟨s, U, h⟩ | ⟨s, h⟩
  · rw [ord_num h h]; simp [compare, compareOfLessAndEq]
  · unfold Format.order; rw [h]; cases s <;> rfl

theorem mean_nf {xs : List Nat} {v : Nat} (h : meanA xs = some v) : NF v := by
  unfold meanA divA at h
  split at h
  · exact div_nf h
  · cases h
end Go.Proofs.Qxb6001350aMods.Fl
