/-
  The plain law under FnMeanLiesBetweenLeastAndGreatest: the mean of whole numbers lies between the least and the greatest.
-/
import Derived.Test.Qxb6001350aModsOps
namespace Go.Proofs.Qxb6001350aMods.Fl
open Ieee

theorem sumFrom_ni (zs : List Int) (hb : ∀ z ∈ zs, z.natAbs ≤ 2 ^ 32) : ∀ (x : Nat) (a : Int), NI x a → a.natAbs + zs.length * 2 ^ 32 ≤ 2 ^ 53 →
    ∃ r, (zs.map F).foldl (fun a x => addA a (some x)) (some x) = some r ∧ NI r (a + zs.sum) := by
  induction zs with
  | nil => intro x a h _; exact ⟨x, rfl, by simpa using h⟩
  | cons z zs ih =>
    intro x a hx hle
    have hz := hb z (by simp)
    rw [List.length_cons, Nat.succ_mul] at hle
    obtain ⟨r, h1, h2⟩ := add_ni hx (F_ni z (by omega)) (by omega)
    obtain ⟨r', h3, h4⟩ := ih (fun y hy => hb y (by simp [hy])) r (a + z) h2 (by omega)
    refine ⟨r', ?_, by rw [List.sum_cons, ← Int.add_assoc]; exact h4⟩
    rw [List.map_cons, List.foldl_cons]
    have e : addA (some x) (some (F z)) = some r := h1
    rw [e]; exact h3

theorem sum_ni (zs : List Int) (hb : ∀ z ∈ zs, z.natAbs ≤ 2 ^ 32) (hl : zs.length ≤ 65536) : ∃ r, sumA (zs.map F) = some r ∧ NI r zs.sum := by
  obtain ⟨r, h1, h2⟩ := sumFrom_ni zs hb 0 0 zero_ni (by simp; omega)
  exact ⟨r, h1, by simpa using h2⟩

theorem sum_bounds (zs : List Int) (lo hi : Int) (h : ∀ z ∈ zs, lo ≤ z ∧ z ≤ hi) : lo * zs.length ≤ zs.sum ∧ zs.sum ≤ hi * zs.length := by
  induction zs with
  | nil => simp
  | cons z zs ih =>
    have h1 := h z (by simp)
    have h2 := ih (fun y hy => h y (by simp [hy]))
    simp only [List.length_cons, List.sum_cons, Int.natCast_add, Int.mul_add]
    omega

theorem sum_abs (zs : List Int) (hb : ∀ z ∈ zs, z.natAbs ≤ 2 ^ 32) : zs.sum.natAbs ≤ zs.length * 2 ^ 32 := by
  induction zs with
  | nil => simp
  | cons z zs ih =>
    have h1 := hb z (by simp)
    have h2 := ih (fun y hy => hb y (by simp [hy]))
    simp only [List.length_cons, List.sum_cons, Nat.succ_mul]
    omega

theorem mean_between (zs : List Int) (lo hi : Int) (h : ∀ z ∈ zs, lo ≤ z ∧ z ≤ hi) (hlo : lo.natAbs ≤ 2 ^ 32) (hhi : hi.natAbs ≤ 2 ^ 32) (hn : 0 < zs.length) (hl : zs.length ≤ 65536) :
    ∃ r, meanA (zs.map F) = some r ∧ (double.order (F lo) r = some .lt ∨ double.order (F lo) r = some .eq) ∧ (double.order r (F hi) = some .lt ∨ double.order r (F hi) = some .eq) := by
  have hb : ∀ z ∈ zs, z.natAbs ≤ 2 ^ 32 := fun z hz => by have := h z hz; omega
  obtain ⟨x, e1, hx⟩ := sum_ni zs hb hl
  have hy : NI (F (zs.length : Int)) (zs.length : Int) := F_ni _ (by omega)
  have ⟨b1, b2⟩ := sum_bounds zs lo hi h
  have ab := sum_abs zs hb
  obtain ⟨r, s, Z, d1, d2, d3, d4, -⟩ := div_ni hx hy (by omega) (by omega) (by omega) (by omega) b1 b2
  refine ⟨r, ?_, ?_, ?_⟩
  · unfold meanA
    rw [List.length_map, e1]
    exact d1
  · obtain ⟨s', U, f1, f2⟩ := F_ni lo (by omega)
    rw [ord_num f1 d2, f2]
    rcases Int.lt_or_eq_of_le d3 with k | k
    · left; simp [compare, compareOfLessAndEq, k]
    · right; rw [k]; simp [compare, compareOfLessAndEq]
  · obtain ⟨s', U, f1, f2⟩ := F_ni hi (by omega)
    rw [ord_num d2 f1, f2]
    rcases Int.lt_or_eq_of_le d4 with k | k
    · left; simp [compare, compareOfLessAndEq, k]
    · right; rw [k]; simp [compare, compareOfLessAndEq]
end Go.Proofs.Qxb6001350aMods.Fl
