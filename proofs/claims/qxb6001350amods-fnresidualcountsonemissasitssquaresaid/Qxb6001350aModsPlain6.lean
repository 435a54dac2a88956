/-
  The plain law under FnResidualCountsOneMissAsItsSquare: on whole numbers the residual is exact.
-/
import Derived.Test.Qxb6001350aModsResid
namespace Go.Proofs.Qxb6001350aMods.Fl
open Ieee

theorem pred_ni (c p : Int) (s : Nat) (hc : c.natAbs ≤ 2 ^ 31) (hp : p.natAbs ≤ 2 ^ 15) (hs : s ≤ 2 ^ 32) :
    ∃ r, predA (some (F c)) (some (F p)) s = some r ∧ NI r (c + p * s) := by
  have hps : (p * (s : Int)).natAbs ≤ 2 ^ 47 := by
    rw [Int.natAbs_mul, Int.natAbs_natCast]
    exact Nat.le_trans (Nat.mul_le_mul hp hs) (by decide)
  obtain ⟨x, hx, nx⟩ := mul_ni (F_ni p (by omega)) (F_ni (s : Int) (by omega)) (by omega)
  obtain ⟨r, hr, nr⟩ := add_ni (F_ni c (by omega)) nx (by omega)
  refine ⟨r, ?_, nr⟩
  show addA (some (F c)) (double.mul (F p) (F s)) = some r
  rw [hx]; exact hr

theorem step_ni (c p e a : Int) (s x : Nat) (hc : c.natAbs ≤ 2 ^ 31) (hp : p.natAbs ≤ 2 ^ 15) (hs : s ≤ 2 ^ 32) (he : e.natAbs ≤ 2 ^ 15) (hx : NI x a) (ha : a.natAbs ≤ 2 ^ 31) :
    ∃ r, resStep (some (F c)) (some (F p)) (some x) (s, F (c + p * s + e)) = some r ∧ NI r (a + e * e) := by
  have hps : (p * (s : Int)).natAbs ≤ 2 ^ 47 := by
    rw [Int.natAbs_mul, Int.natAbs_natCast]
    exact Nat.le_trans (Nat.mul_le_mul hp hs) (by decide)
  have hee : (e * e).natAbs ≤ 2 ^ 30 := by
    rw [Int.natAbs_mul]
    exact Nat.le_trans (Nat.mul_le_mul he he) (by decide)
  obtain ⟨y, hy, ny⟩ := pred_ni c p s hc hp hs
  obtain ⟨d, hd, nd⟩ := sub_ni ny (F_ni (c + p * s + e) (by omega)) (by omega)
  have ed : c + p * s - (c + p * s + e) = -e := by omega
  rw [ed] at nd
  have hdd : (-e * -e) = e * e := by rw [Int.neg_mul_neg]
  obtain ⟨q, hq, nq⟩ := mul_ni nd nd (by rw [hdd]; omega)
  rw [hdd] at nq
  obtain ⟨r, hr, nr⟩ := add_ni hx nq (by omega)
  refine ⟨r, ?_, nr⟩
  unfold resStep
  simp only [hy]
  have e1 : subA (some y) (some (F (c + p * s + e))) = some d := hd
  rw [e1]
  have e2 : mulA (some d) (some d) = some q := hq
  rw [e2]
  exact hr

theorem resid_ni (c p k : Int) (j : Nat) (rows : List (Nat × Nat)) (hc : c.natAbs ≤ 2 ^ 31) (hp : p.natAbs ≤ 2 ^ 15) (hk : k.natAbs ≤ 2 ^ 15)
    (hrows : ∀ i, i < rows.length → (rows.getD i (0, 0)).1 ≤ 2 ^ 32 ∧ (rows.getD i (0, 0)).2 = F (c + p * (rows.getD i (0, 0)).1 + if i = j then k else 0)) :
    ∀ m, m ≤ rows.length → ∃ r, residA (some (F c)) (some (F p)) (rows.take m) = some r ∧ NI r (if j < m then k * k else 0) := by
  have hkk : (k * k).natAbs ≤ 2 ^ 30 := by
    rw [Int.natAbs_mul]
    exact Nat.le_trans (Nat.mul_le_mul hk hk) (by decide)
  intro m
  induction m with
  | zero => intro _; exact ⟨0, rfl, by simpa using zero_ni⟩
  | succ m ih =>
    intro hm
    obtain ⟨x, hx, nx⟩ := ih (by omega)
    have ⟨h1, h2⟩ := hrows m (by omega)
    obtain ⟨s, es⟩ : ∃ s, (rows.getD m (0, 0)).1 = s := ⟨_, rfl⟩
    rw [es] at h1 h2
    have er : rows.getD m (0, 0) = (s, F (c + p * s + if m = j then k else 0)) := Prod.ext es h2
    obtain ⟨r, hr, nr⟩ := step_ni c p (if m = j then k else 0) _ s x hc hp h1 (by split <;> omega) nx (by split <;> omega)
    refine ⟨r, ?_, ?_⟩
    · rw [take_snoc2 rows m (by omega), residA_snoc, hx, er]; exact hr
    · have e : (if j < m then k * k else 0) + (if m = j then k else 0) * (if m = j then k else 0) = (if j < m + 1 then k * k else 0) := by
        by_cases h : m = j
        · subst h; simp
        · by_cases h' : j < m
          · have : j < m + 1 := by omega
            simp [h, h', this]
          · have : ¬ j < m + 1 := by omega
            simp [h, h', this]
      rw [← e]; exact nr
end Go.Proofs.Qxb6001350aMods.Fl
