/-
  Plain laws on Ieee.double: sum, difference, product, quotient, order, on what the words stand for. No Go in sight.
-/
import Derived.Test.Qxb6001350aModsFloat
namespace Go.Proofs.Qxb6001350aMods.Fl
open Ieee

def K : Nat := 1074
theorem K_eq : K = 1074 := rfl
/-- one, in units of 2 ^ -1074 -/
def one : Nat := 2 ^ K
theorem one_pos : 0 < one := pp K
theorem one_eq : one = 2 ^ K := rfl

/-- a magnitude with its sign -/
def sg (s : Bool) (U : Nat) : Int := if s then -(U : Int) else (U : Int)

theorem sg_natAbs (s : Bool) (U : Nat) : (sg s U).natAbs = U := by cases s <;> simp [sg]
theorem signed_eq (s : Bool) (m up : Nat) : signed s m up = sg s (m * 2 ^ up) := by
  unfold signed sg; rw [Nat.shiftLeft_eq]
theorem sg_mul (s : Bool) (m k : Nat) : sg s (m * k) = sg s m * (k : Int) := by
  cases s <;> simp [sg, Int.natCast_mul, Int.neg_mul]

/-! ### sum -/
theorem sum_num (s t : Bool) (m n : Nat) (i j : Int) (hi : -1074 ≤ i) (hj : -1074 ≤ j) :
    ∃ neg mag place, (Datum.number s m i).sum (Datum.number t n j) = some (.number neg mag place) ∧ -1074 ≤ place ∧
      mag * 2 ^ (place + 1074).toNat = (sg s (m * 2 ^ (i + 1074).toNat) + sg t (n * 2 ^ (j + 1074).toNat)).natAbs ∧
      neg = (if sg s (m * 2 ^ (i + 1074).toNat) + sg t (n * 2 ^ (j + 1074).toNat) = 0 then s && t else decide (sg s (m * 2 ^ (i + 1074).toNat) + sg t (n * 2 ^ (j + 1074).toNat) < 0)) := by
  obtain ⟨base, hb⟩ : ∃ b, min i j = b := ⟨_, rfl⟩
  have e1 : (i + 1074).toNat = (i - base).toNat + (base + 1074).toNat := by omega
  have e2 : (j + 1074).toNat = (j - base).toNat + (base + 1074).toNat := by omega
  have tot : sg s (m * 2 ^ (i + 1074).toNat) + sg t (n * 2 ^ (j + 1074).toNat) = (signed s m (i - base).toNat + signed t n (j - base).toNat) * ((2 ^ (base + 1074).toNat : Nat) : Int) := by
    rw [e1, e2, Nat.pow_add, Nat.pow_add, ← Nat.mul_assoc, ← Nat.mul_assoc, sg_mul s (m * 2 ^ (i - base).toNat), sg_mul t (n * 2 ^ (j - base).toNat), ← Int.add_mul, signed_eq, signed_eq]
  have hp : (0 : Int) < ((2 ^ (base + 1074).toNat : Nat) : Int) := Int.natCast_pos.2 (pp _)
  have hs : (Datum.number s m i).sum (Datum.number t n j) = some (.number (if signed s m (i - base).toNat + signed t n (j - base).toNat = 0 then s && t else decide (signed s m (i - base).toNat + signed t n (j - base).toNat < 0)) (signed s m (i - base).toNat + signed t n (j - base).toNat).natAbs base) := by
    simp only [Datum.sum, hb]
  rw [tot]
  generalize signed s m (i - base).toNat + signed t n (j - base).toNat = total at *
  have hz : total * ((2 ^ (base + 1074).toNat : Nat) : Int) = 0 ↔ total = 0 := by
    constructor
    · intro h
      rcases Int.mul_eq_zero.1 h with h | h
      · exact h
      · omega
    · intro h; rw [h]; simp
  have hn : total * ((2 ^ (base + 1074).toNat : Nat) : Int) < 0 ↔ total < 0 := by
    constructor
    · intro h
      rcases Int.lt_or_le total 0 with h' | h'
      · exact h'
      · have := Int.mul_nonneg h' (Int.le_of_lt hp); omega
    · intro h; exact Int.mul_neg_of_neg_of_pos h hp
  refine ⟨if total = 0 then s && t else decide (total < 0), total.natAbs, base, hs, by omega, ?_, ?_⟩
  · rw [Int.natAbs_mul, Int.natAbs_natCast]
  · simp only [hz, hn]

theorem near0 {neg : Bool} {mag : Nat} {place : Int} (hp : -1074 ≤ place) {V : Nat} (hV : Rep V) (hle : mag * 2 ^ (place + 1074).toNat ≤ V) :
    ∃ U, Num (double.nearest neg mag place) neg U ∧
      (∀ V', Rep V' → mag * 2 ^ (place + 1074).toNat ≤ V' → U ≤ V') ∧
      (∀ V', Rep V' → V' ≤ mag * 2 ^ (place + 1074).toNat → V' ≤ U) := by
  have h := near_fin neg mag place 0 (by omega) hV (by simpa using hle)
  simpa using h

/-- What '+' gives of two numbers: the sign as the standard has it; the magnitude between all of the format's that hold the exact one between them. -/
theorem add_fin {x y : Nat} {s t : Bool} {U W : Nat} (hx : Num x s U) (hy : Num y t W) {V : Nat} (hV : Rep V) (hle : (sg s U + sg t W).natAbs ≤ V) :
    ∃ r Z, double.add x y = some r ∧ Num r (if sg s U + sg t W = 0 then s && t else decide (sg s U + sg t W < 0)) Z ∧
      (∀ V', Rep V' → (sg s U + sg t W).natAbs ≤ V' → Z ≤ V') ∧ (∀ V', Rep V' → V' ≤ (sg s U + sg t W).natAbs → V' ≤ Z) := by
  obtain ⟨m, i, ex, hi, rfl⟩ := hx
  obtain ⟨n, j, ey, hj, rfl⟩ := hy
  obtain ⟨neg, mag, place, hs, hp, hm, hn⟩ := sum_num s t m n i j hi hj
  rw [← hm] at hle ⊢
  rw [← hn]
  obtain ⟨Z, h1, h2, h3⟩ := near0 (neg := neg) hp hV hle
  refine ⟨_, Z, ?_, h1, h2, h3⟩
  unfold Format.add
  rw [ex, ey, hs]
  rfl

theorem sub_fin {x y : Nat} {s t : Bool} {U W : Nat} (hx : Num x s U) (hy : Num y t W) {V : Nat} (hV : Rep V) (hle : (sg s U + sg (!t) W).natAbs ≤ V) :
    ∃ r Z, double.sub x y = some r ∧ Num r (if sg s U + sg (!t) W = 0 then s && !t else decide (sg s U + sg (!t) W < 0)) Z ∧
      (∀ V', Rep V' → (sg s U + sg (!t) W).natAbs ≤ V' → Z ≤ V') ∧ (∀ V', Rep V' → V' ≤ (sg s U + sg (!t) W).natAbs → V' ≤ Z) := by
  obtain ⟨m, i, ex, hi, rfl⟩ := hx
  obtain ⟨n, j, ey, hj, rfl⟩ := hy
  obtain ⟨neg, mag, place, hs, hp, hm, hn⟩ := sum_num s (!t) m n i j hi hj
  rw [← hm] at hle ⊢
  rw [← hn]
  obtain ⟨Z, h1, h2, h3⟩ := near0 (neg := neg) hp hV hle
  refine ⟨_, Z, ?_, h1, h2, h3⟩
  unfold Format.sub
  rw [ex, ey]
  simp only [Datum.opposite, hs]
  rfl

/-! ### product -/
theorem pow_shift (m n : Nat) (i j : Int) (hi : -1074 ≤ i) (hj : -1074 ≤ j) :
    m * n * 2 ^ (i + j + 1074 + (K : Int)).toNat = (m * 2 ^ (i + 1074).toNat) * (n * 2 ^ (j + 1074).toNat) := by
  have e : (i + j + 1074 + (K : Int)).toNat = (i + 1074).toNat + (j + 1074).toNat := by have := K_eq; omega
  rw [e, Nat.pow_add, Nat.mul_mul_mul_comm]

theorem mul_fin {x y : Nat} {s t : Bool} {U W : Nat} (hx : Num x s U) (hy : Num y t W) {V : Nat} (hV : Rep V) (hle : U * W ≤ V * one) :
    ∃ r Z, double.mul x y = some r ∧ Num r (s ^^ t) Z ∧
      (∀ V', Rep V' → U * W ≤ V' * one → Z ≤ V') ∧ (∀ V', Rep V' → V' * one ≤ U * W → V' ≤ Z) := by
  obtain ⟨m, i, ex, hi, rfl⟩ := hx
  obtain ⟨n, j, ey, hj, rfl⟩ := hy
  rw [← pow_shift m n i j hi hj] at hle ⊢
  obtain ⟨Z, h1, h2, h3⟩ := near_fin (s ^^ t) (m * n) (i + j) K (by have := K_eq; omega) hV hle
  refine ⟨_, Z, ?_, h1, h2, h3⟩
  unfold Format.mul
  rw [ex, ey]
  rfl

/-! ### order -/
theorem ord_num {x y : Nat} {s t : Bool} {U W : Nat} (hx : Num x s U) (hy : Num y t W) : double.order x y = some (compare (sg s U) (sg t W)) := by
  obtain ⟨m, i, ex, hi, rfl⟩ := hx
  obtain ⟨n, j, ey, hj, rfl⟩ := hy
  unfold Format.order
  rw [ex, ey]
  obtain ⟨base, hb⟩ : ∃ b, min i j = b := ⟨_, rfl⟩
  have e1 : (i + 1074).toNat = (i - base).toNat + (base + 1074).toNat := by omega
  have e2 : (j + 1074).toNat = (j - base).toNat + (base + 1074).toNat := by omega
  simp only [Datum.order, hb]
  rw [e1, e2, Nat.pow_add, Nat.pow_add, ← Nat.mul_assoc, ← Nat.mul_assoc, sg_mul s (m * 2 ^ (i - base).toNat), sg_mul t (n * 2 ^ (j - base).toNat), ← signed_eq, ← signed_eq]
  have hp : (0 : Int) < ((2 ^ (base + 1074).toNat : Nat) : Int) := Int.natCast_pos.2 (pp _)
  generalize signed s m (i - base).toNat = a
  generalize signed t n (j - base).toNat = b
  generalize ((2 ^ (base + 1074).toNat : Nat) : Int) = c at *
  congr 1
  rcases Int.lt_trichotomy a b with h | h | h
  · have h' := Int.mul_lt_mul_of_pos_right h hp
    simp [compare, compareOfLessAndEq, h, h']
  · subst h; simp [compare, compareOfLessAndEq]
  · have h' := Int.mul_lt_mul_of_pos_right h hp
    have n1 : ¬ a < b := by omega
    have n2 : ¬ a = b := by omega
    have n3 : ¬ a * c < b * c := by omega
    have n4 : ¬ a * c = b * c := by omega
    simp [compare, compareOfLessAndEq, n1, n2, n3, n4]

/-! ### quotient -/
theorem quo_le {d n K : Nat} (hn : 0 < n) (h : d ≤ K * n) : 2 * (d / n) + (d % n != 0).toNat ≤ 2 * K := by
  have h1 := Nat.div_add_mod d n
  have h2 : d / n ≤ K := by
    have := Nat.div_le_div_right (c := n) h
    rwa [Nat.mul_div_cancel _ hn] at this
  by_cases e : d / n = K
  · have h3 : n * K = K * n := Nat.mul_comm _ _
    rw [e, h3] at h1
    have h4 : d % n = 0 := by omega
    rw [h4, e]
    simp
  · have := Bool.toNat_le (d % n != 0)
    omega
theorem quo_ge {d n K : Nat} (hn : 0 < n) (h : K * n ≤ d) : 2 * K ≤ 2 * (d / n) + (d % n != 0).toNat := by
  have := (Nat.le_div_iff_mul_le hn).2 h
  omega

theorem read_bound {x : Nat} {s : Bool} {m : Nat} {p : Int} (h : double.read x = .number s m p) : m < 2 ^ 53 := by
  unfold Format.read at h
  rw [d_sign, d_binade, d_inf, d_least] at h
  simp only at h
  split at h
  · cases h; omega
  · split at h
    · cases h; omega
    · split at h <;> cases h

theorem div_eq {x y : Nat} {s t : Bool} {m n : Nat} {i j : Int} (ex : double.read x = .number s m i) (ey : double.read y = .number t n j) (hn : n ≠ 0) :
    double.div x y = some (double.nearest (s ^^ t) (2 * (m * 2 ^ (54 + n.log2 - m.log2) / n) + (m * 2 ^ (54 + n.log2 - m.log2) % n != 0).toNat) (i - j - (54 + n.log2 - m.log2 : Nat) - 1)) := by
  unfold Format.div
  rw [ex, ey, d_frac]
  simp only [Datum.quotient, if_neg hn, Nat.shiftLeft_eq]
  rfl

theorem rep_small {v : Nat} (h : v ≤ 2 ^ 53) : Rep (v * one) := by
  by_cases e : v = 2 ^ 53
  · refine ⟨1, 53 + K, by omega, by have := K_eq; omega, ?_⟩
    rw [e, one_eq, ← Nat.pow_add, Nat.one_mul]
  · exact ⟨v, K, by omega, by have := K_eq; omega, rfl⟩
theorem rep_pow {e : Nat} (h : e ≤ 2045) : Rep (2 ^ e) := ⟨1, e, by omega, h, by rw [Nat.one_mul]⟩
theorem rep_zero : Rep 0 := ⟨0, 0, by omega, by omega, rfl⟩

/-- The quotient of two whole numbers. -/
theorem div_int {x y : Nat} {s t : Bool} {a n : Nat} (hx : Num x s (a * one)) (hy : Num y t (n * one)) (ha : a ≤ 2 ^ 53) (hn : 0 < n) :
    ∃ r Z, double.div x y = some r ∧ Num r (s ^^ t) Z ∧
      (∀ v, v ≤ 2 ^ 53 → a ≤ v * n → Z ≤ v * one) ∧ (∀ v, v ≤ 2 ^ 53 → v * n ≤ a → v * one ≤ Z) := by
  obtain ⟨m, i, ex, hi, hU⟩ := hx
  obtain ⟨N, j, ey, hj, hW⟩ := hy
  have hN : N ≠ 0 := by
    intro h0; subst h0
    have : 0 < n * one := Nat.mul_pos hn one_pos
    omega
  have hNp : 0 < N := by omega
  obtain ⟨more, hmore⟩ : ∃ k, 54 + N.log2 - m.log2 = k := ⟨_, rfl⟩
  have hdiv := div_eq ex ey hN
  rw [hmore] at hdiv
  obtain ⟨I, hI⟩ : ∃ I : Nat, i = (I : Int) - 1074 := ⟨(i + 1074).toNat, by omega⟩
  obtain ⟨J, hJ⟩ : ∃ J : Nat, j = (J : Int) - 1074 := ⟨(j + 1074).toNat, by omega⟩
  have eI : (i + 1074).toNat = I := by omega
  have eJ : (j + 1074).toNat = J := by omega
  rw [eI] at hU
  rw [eJ] at hW
  -- the places: i ≤ j + more
  have hle : m ≠ 0 → I ≤ J + more := by
    intro hm
    have l1 : m.log2 + I < 54 + K := by
      have h1 : 2 ^ m.log2 ≤ m := Nat.log2_self_le hm
      have h2 : 2 ^ (m.log2 + I) ≤ m * 2 ^ I := by rw [Nat.pow_add]; exact Nat.mul_le_mul_right _ h1
      have h3 : a * one ≤ 2 ^ 53 * one := Nat.mul_le_mul_right _ ha
      have h4 : 2 ^ (m.log2 + I) ≤ 2 ^ 53 * one := by rw [← hU] at h2; exact Nat.le_trans h2 h3
      rw [one_eq, ← Nat.pow_add] at h4
      have := (Nat.pow_le_pow_iff_right (a := 2) (by omega)).1 h4
      omega
    have l2 : K < N.log2 + 1 + J := by
      have h1 : N < 2 ^ (N.log2 + 1) := Nat.lt_log2_self
      have h2 : N * 2 ^ J < 2 ^ (N.log2 + 1 + J) := by rw [Nat.pow_add]; exact Nat.mul_lt_mul_of_pos_right h1 (pp _)
      have h3 : 1 * one ≤ n * one := Nat.mul_le_mul_right _ hn
      have h4 : one < 2 ^ (N.log2 + 1 + J) := by rw [Nat.one_mul, hW] at h3; exact Nat.lt_of_le_of_lt h3 h2
      exact (Nat.pow_lt_pow_iff_right (a := 2) (by omega)).1 h4
    omega
  obtain ⟨q, hq⟩ : ∃ q, 2 * (m * 2 ^ more / N) + (m * 2 ^ more % N != 0).toNat = q := ⟨_, rfl⟩
  rw [hq] at hdiv
  obtain ⟨E, hE⟩ : ∃ E, J + more - I = E := ⟨_, rfl⟩
  have shift : ∀ v, m ≠ 0 → (v * 2 ^ E) * N * 2 ^ I = v * n * (2 ^ more * one) := by
    intro v hm
    have e : E + I = J + more := by have := hle hm; omega
    calc v * 2 ^ E * N * 2 ^ I = v * N * (2 ^ E * 2 ^ I) := by
          rw [Nat.mul_assoc (v * 2 ^ E), Nat.mul_mul_mul_comm v (2 ^ E) N (2 ^ I)]
      _ = v * N * (2 ^ J * 2 ^ more) := by rw [← Nat.pow_add, e, Nat.pow_add]
      _ = v * (N * 2 ^ J) * 2 ^ more := by rw [← Nat.mul_assoc, Nat.mul_assoc v N]
      _ = v * (n * one) * 2 ^ more := by rw [← hW]
      _ = v * n * (2 ^ more * one) := by rw [← Nat.mul_assoc v n, Nat.mul_assoc (v * n), Nat.mul_comm one]
  have dshift : m * 2 ^ more * 2 ^ I = a * (2 ^ more * one) := by
    rw [Nat.mul_right_comm, ← hU, Nat.mul_assoc, Nat.mul_comm one]
  have q0 : m = 0 → q = 0 := by
    intro h0; rw [← hq, h0]; simp
  have a0 : m = 0 → a = 0 := by
    intro h0; rw [h0, Nat.zero_mul] at hU
    rcases Nat.mul_eq_zero.1 hU with h | h
    · exact h
    · have := one_pos; omega
  have up : ∀ v, m ≠ 0 → a ≤ v * n → q ≤ 2 * (v * 2 ^ E) := by
    intro v hm h
    rw [← hq]
    apply quo_le hNp
    refine mul_pow_le (k := I) ?_
    rw [shift v hm, dshift]
    exact Nat.mul_le_mul_right _ h
  have dn : ∀ v, m ≠ 0 → v * n ≤ a → 2 * (v * 2 ^ E) ≤ q := by
    intro v hm h
    rw [← hq]
    apply quo_ge hNp
    refine mul_pow_le (k := I) ?_
    rw [shift v hm, dshift]
    exact Nat.mul_le_mul_right _ h
  have place : (i - j - (more : Nat) - 1 + 1074 + ((J + more + 1 : Nat) : Int)).toNat = I + K := by have := K_eq; omega
  have vs : ∀ v, m ≠ 0 → 2 * (v * 2 ^ E) * 2 ^ (I + K) = v * one * 2 ^ (J + more + 1) := by
    intro v hm
    have e : E + I = J + more := by have := hle hm; omega
    have e2 : 2 * (v * 2 ^ E) * 2 ^ (I + K) = v * (2 ^ 1 * 2 ^ E * 2 ^ (I + K)) := by
      rw [Nat.mul_left_comm, Nat.mul_assoc]
    have e3 : 1 + E + (I + K) = K + (J + more + 1) := by omega
    rw [e2, ← Nat.pow_add, ← Nat.pow_add, one_eq, Nat.mul_assoc, ← Nat.pow_add, e3]
  have up' : ∀ v, a ≤ v * n → q * 2 ^ (I + K) ≤ v * one * 2 ^ (J + more + 1) := by
    intro v h
    by_cases hm : m = 0
    · rw [q0 hm, Nat.zero_mul]; exact Nat.zero_le _
    · rw [← vs v hm]; exact Nat.mul_le_mul_right _ (up v hm h)
  have dn' : ∀ v, v * n ≤ a → v * one * 2 ^ (J + more + 1) ≤ q * 2 ^ (I + K) := by
    intro v h
    by_cases hm : m = 0
    · have : v = 0 := by
        rw [a0 hm] at h
        rcases Nat.mul_eq_zero.1 (Nat.le_zero.1 h) with h | h
        · exact h
        · omega
      rw [this, Nat.zero_mul, Nat.zero_mul]; exact Nat.zero_le _
    · rw [← vs v hm]; exact Nat.mul_le_mul_right _ (dn v hm h)
  obtain ⟨Z, h1, h2, h3⟩ := near_fin (s ^^ t) q (i - j - (more : Nat) - 1) (J + more + 1) (by omega) (rep_small ha) (by
    rw [place]
    exact up' a (Nat.le_mul_of_pos_right _ hn))
  rw [place] at h2 h3
  exact ⟨_, Z, hdiv, h1, fun v hv h => h2 _ (rep_small hv) (up' v h), fun v hv h => h3 _ (rep_small hv) (dn' v h)⟩

/-- A quotient by a number of at least one is finite, if the dividend is bounded. -/
theorem div_fin {x y : Nat} {s t : Bool} {U W e : Nat} (hx : Num x s U) (hy : Num y t W) (he : e ≤ 1900) (hU : U ≤ 2 ^ e) (hW : one ≤ W) :
    ∃ r Z, double.div x y = some r ∧ Num r (s ^^ t) Z := by
  obtain ⟨m, i, ex, hi, rfl⟩ := hx
  obtain ⟨N, j, ey, hj, rfl⟩ := hy
  have hN : N ≠ 0 := by
    intro h0; subst h0
    have := one_pos
    omega
  have hNb := read_bound ey
  obtain ⟨more, hmore⟩ : ∃ k, 54 + N.log2 - m.log2 = k := ⟨_, rfl⟩
  have hdiv := div_eq ex ey hN
  rw [hmore] at hdiv
  obtain ⟨I, hI⟩ : ∃ I : Nat, i = (I : Int) - 1074 := ⟨(i + 1074).toNat, by omega⟩
  obtain ⟨J, hJ⟩ : ∃ J : Nat, j = (J : Int) - 1074 := ⟨(j + 1074).toNat, by omega⟩
  have eI : (i + 1074).toNat = I := by omega
  have eJ : (j + 1074).toNat = J := by omega
  rw [eI] at hU
  rw [eJ] at hW
  have hq := quo_le (d := m * 2 ^ more) (n := N) (K := m * 2 ^ more) (by omega) (Nat.le_mul_of_pos_right _ (by omega))
  generalize 2 * (m * 2 ^ more / N) + (m * 2 ^ more % N != 0).toNat = q at *
  have place : (i - j - (more : Nat) - 1 + 1074 + ((J + more + 1 : Nat) : Int)).toNat = I + K := by have := K_eq; omega
  have key : q * 2 ^ (I + K) ≤ 2 ^ (54 + e) * 2 ^ (J + more + 1) := by
    have k1 : q * 2 ^ (I + K) ≤ 2 * (m * 2 ^ more) * 2 ^ (I + K) := Nat.mul_le_mul_right _ hq
    have k2 : 2 * (m * 2 ^ more) * 2 ^ (I + K) = (m * 2 ^ I) * (one * 2 ^ (more + 1)) := by
      rw [one_eq, Nat.pow_add 2 I, Nat.pow_succ 2 more]
      generalize 2 ^ more = a
      generalize 2 ^ I = b
      generalize 2 ^ K = c
      simp only [Nat.mul_assoc, Nat.mul_comm, Nat.mul_left_comm]
    have k3 : (m * 2 ^ I) * (one * 2 ^ (more + 1)) ≤ 2 ^ e * (one * 2 ^ (more + 1)) := Nat.mul_le_mul_right _ hU
    have k4 : one ≤ 2 ^ 53 * 2 ^ J := Nat.le_trans hW (Nat.mul_le_mul_right _ (Nat.le_of_lt hNb))
    have k5 : 2 ^ e * (one * 2 ^ (more + 1)) ≤ 2 ^ e * (2 ^ 53 * 2 ^ J * 2 ^ (more + 1)) := Nat.mul_le_mul_left _ (Nat.mul_le_mul_right _ k4)
    have k6 : 2 ^ e * (2 ^ 53 * 2 ^ J * 2 ^ (more + 1)) ≤ 2 ^ (54 + e) * 2 ^ (J + more + 1) := by
      rw [← Nat.pow_add, ← Nat.pow_add, ← Nat.pow_add, ← Nat.pow_add]
      exact Nat.pow_le_pow_right (by omega) (by omega)
    omega
  obtain ⟨Z, h1, -, -⟩ := near_fin (s ^^ t) q (i - j - (more : Nat) - 1) (J + more + 1) (by omega) (rep_pow (e := 54 + e) (by omega)) (by rw [place]; exact key)
  exact ⟨_, Z, hdiv, h1⟩

/-! ### whole numbers -/
/-- 'float64(n)' -/
def F (n : Int) : Nat := double.nearest (decide (n < 0)) n.natAbs 0

/-- x stands for the whole number n -/
def NI (x : Nat) (n : Int) : Prop := ∃ s U, Num x s U ∧ sg s U = n * (one : Int)

theorem sg_self (T : Int) (b : Bool) : sg (if T = 0 then b else decide (T < 0)) T.natAbs = T := by
  by_cases h : T = 0
  · subst h; cases b <;> rfl
  · by_cases h2 : T < 0
    · simp [sg, h, h2]; omega
    · simp [sg, h, h2]; omega

theorem natAbs_one (n : Int) : (n * (one : Int)).natAbs = n.natAbs * one := by rw [Int.natAbs_mul, Int.natAbs_natCast]
theorem one_pos' : (0 : Int) < (one : Int) := Int.natCast_pos.2 one_pos

theorem F_near (n : Int) {V : Nat} (hV : Rep V) (h : n.natAbs * one ≤ V) :
    ∃ U, Num (F n) (decide (n < 0)) U ∧ (∀ V', Rep V' → n.natAbs * one ≤ V' → U ≤ V') ∧ (∀ V', Rep V' → V' ≤ n.natAbs * one → V' ≤ U) := by
  have e : ((0 : Int) + 1074).toNat = K := by decide
  have k := near0 (neg := decide (n < 0)) (mag := n.natAbs) (place := 0) (by omega) hV (by rw [e, ← one_eq]; exact h)
  rw [e, ← one_eq] at k
  exact k

theorem F_ni (n : Int) (h : n.natAbs ≤ 2 ^ 53) : NI (F n) n := by
  obtain ⟨U, h1, h2, h3⟩ := F_near n (rep_small h) (Nat.le_refl _)
  have e : U = n.natAbs * one := Nat.le_antisymm (h2 _ (rep_small h) (Nat.le_refl _)) (h3 _ (rep_small h) (Nat.le_refl _))
  rw [e] at h1
  have k : sg (decide (n < 0)) n.natAbs = n := by
    by_cases h0 : n < 0
    · simp [sg, h0]; omega
    · simp [sg, h0]; omega
  exact ⟨_, _, h1, by rw [sg_mul, k]⟩

theorem zero_ni : NI 0 0 := F_ni 0 (by decide)
theorem F_zero : F 0 = 0 := by decide

theorem add_ni {x y : Nat} {a b : Int} (hx : NI x a) (hy : NI y b) (h : (a + b).natAbs ≤ 2 ^ 53) : ∃ r, double.add x y = some r ∧ NI r (a + b) := by
  obtain ⟨s, U, hx, ex⟩ := hx
  obtain ⟨t, W, hy, ey⟩ := hy
  have tot : sg s U + sg t W = (a + b) * (one : Int) := by rw [ex, ey, Int.add_mul]
  have hr : Rep (sg s U + sg t W).natAbs := by rw [tot, natAbs_one]; exact rep_small h
  obtain ⟨r, Z, h1, h2, h3, h4⟩ := add_fin hx hy hr (Nat.le_refl _)
  have e : Z = (sg s U + sg t W).natAbs := Nat.le_antisymm (h3 _ hr (Nat.le_refl _)) (h4 _ hr (Nat.le_refl _))
  subst e
  exact ⟨r, h1, _, _, h2, by rw [sg_self, tot]⟩

theorem sg_not (t : Bool) (W : Nat) : sg (!t) W = - sg t W := by cases t <;> simp [sg]

theorem sub_ni {x y : Nat} {a b : Int} (hx : NI x a) (hy : NI y b) (h : (a - b).natAbs ≤ 2 ^ 53) : ∃ r, double.sub x y = some r ∧ NI r (a - b) := by
  obtain ⟨s, U, hx, ex⟩ := hx
  obtain ⟨t, W, hy, ey⟩ := hy
  have tot : sg s U + sg (!t) W = (a - b) * (one : Int) := by rw [sg_not, ex, ey, Int.sub_mul]; rfl
  have hr : Rep (sg s U + sg (!t) W).natAbs := by rw [tot, natAbs_one]; exact rep_small h
  obtain ⟨r, Z, h1, h2, h3, h4⟩ := sub_fin hx hy hr (Nat.le_refl _)
  have e : Z = (sg s U + sg (!t) W).natAbs := Nat.le_antisymm (h3 _ hr (Nat.le_refl _)) (h4 _ hr (Nat.le_refl _))
  subst e
  exact ⟨r, h1, _, _, h2, by rw [sg_self, tot]⟩

theorem sg_xor (s t : Bool) (A B : Nat) : sg (s ^^ t) (A * B) = sg s A * sg t B := by
  cases s <;> cases t <;> simp [sg, Int.natCast_mul, Int.mul_neg, Int.neg_mul]

theorem mul_ni {x y : Nat} {a b : Int} (hx : NI x a) (hy : NI y b) (h : (a * b).natAbs ≤ 2 ^ 53) : ∃ r, double.mul x y = some r ∧ NI r (a * b) := by
  obtain ⟨s, U, hx, ex⟩ := hx
  obtain ⟨t, W, hy, ey⟩ := hy
  have eU : U = a.natAbs * one := by rw [← natAbs_one, ← ex, sg_natAbs]
  have eW : W = b.natAbs * one := by rw [← natAbs_one, ← ey, sg_natAbs]
  have tot : U * W = (a * b).natAbs * one * one := by rw [eU, eW, Int.natAbs_mul, Nat.mul_mul_mul_comm, Nat.mul_assoc _ one one]
  have hr : Rep ((a * b).natAbs * one) := rep_small h
  obtain ⟨r, Z, h1, h2, h3, h4⟩ := mul_fin hx hy hr (by rw [tot]; exact Nat.le_refl _)
  have e : Z = (a * b).natAbs * one := Nat.le_antisymm (h3 _ hr (by rw [tot]; exact Nat.le_refl _)) (h4 _ hr (by rw [tot]; exact Nat.le_refl _))
  refine ⟨r, h1, _, _, h2, ?_⟩
  have k : sg (s ^^ t) Z * (one : Int) = a * b * (one : Int) * (one : Int) := by
    rw [← sg_mul, e, ← tot, sg_xor, ex, ey, Int.mul_assoc, Int.mul_left_comm (one : Int), ← Int.mul_assoc, ← Int.mul_assoc]
  exact Int.eq_of_mul_eq_mul_right (by have := one_pos'; omega) k

theorem ord_ni {x y : Nat} {a b : Int} (hx : NI x a) (hy : NI y b) : double.order x y = some (compare a b) := by
  obtain ⟨s, U, hx, ex⟩ := hx
  obtain ⟨t, W, hy, ey⟩ := hy
  rw [ord_num hx hy, ex, ey]
  have hp := one_pos'
  generalize (one : Int) = c at *
  congr 1
  rcases Int.lt_trichotomy a b with h | h | h
  · have h' := Int.mul_lt_mul_of_pos_right h hp
    simp [compare, compareOfLessAndEq, h, h']
  · subst h; simp [compare, compareOfLessAndEq]
  · have h' := Int.mul_lt_mul_of_pos_right h hp
    have n1 : ¬ a < b := by omega
    have n2 : ¬ a = b := by omega
    have n3 : ¬ a * c < b * c := by omega
    have n4 : ¬ a * c = b * c := by omega
    simp [compare, compareOfLessAndEq, n1, n2, n3, n4]

/-- The quotient of whole numbers lies between the whole numbers between which the exact one lies. -/
theorem div_ni {x y : Nat} {a n lo hi : Int} (hx : NI x a) (hy : NI y n) (ha : a.natAbs ≤ 2 ^ 53) (hn : 0 < n) (hlo : lo.natAbs ≤ 2 ^ 53) (hhi : hi.natAbs ≤ 2 ^ 53) (h1 : lo * n ≤ a) (h2 : a ≤ hi * n) :
    ∃ r s Z, double.div x y = some r ∧ Num r s Z ∧ lo * (one : Int) ≤ sg s Z ∧ sg s Z ≤ hi * (one : Int) ∧ (0 ≤ a → s = false ∨ a = 0) := by
  obtain ⟨s, U, hx, ex⟩ := hx
  obtain ⟨t, W, hy, ey⟩ := hy
  have eU : U = a.natAbs * one := by rw [← natAbs_one, ← ex, sg_natAbs]
  have eW : W = n.natAbs * one := by rw [← natAbs_one, ← ey, sg_natAbs]
  have ho := one_pos'
  have et : t = false := by
    cases t with
    | false => rfl
    | true =>
      exfalso
      have h3 : 0 < n * (one : Int) := Int.mul_pos hn ho
      rw [← ey] at h3
      simp [sg] at h3
      omega
  subst et
  rw [eU] at hx
  rw [eW] at hy
  obtain ⟨r, Z, d1, d2, d3, d4⟩ := div_int hx hy ha (by omega)
  rw [Bool.xor_false] at d2
  have hnn : ((n.natAbs : Nat) : Int) = n := by omega
  refine ⟨r, s, Z, d1, d2, ?_⟩
  cases s with
  | false =>
    have a0 : 0 ≤ a := by
      rcases Int.lt_or_le a 0 with h | h
      · exfalso
        have := Int.mul_neg_of_neg_of_pos h ho
        rw [← ex] at this
        simp [sg] at this
        omega
      · exact h
    have haa : ((a.natAbs : Nat) : Int) = a := by omega
    refine ⟨?_, ?_, fun _ => .inl rfl⟩
    · by_cases l0 : lo ≤ 0
      · have := Int.mul_nonneg (a := -lo) (by omega) (Int.le_of_lt ho)
        rw [Int.neg_mul] at this
        simp only [sg]
        simp
        omega
      · have k := d4 lo.natAbs hlo (by
          have : ((lo.natAbs * n.natAbs : Nat) : Int) ≤ (a.natAbs : Int) := by
            rw [Int.natCast_mul, hnn, haa, show ((lo.natAbs : Nat) : Int) = lo from by omega]; exact h1
          omega)
        have k' : ((lo.natAbs * one : Nat) : Int) ≤ (Z : Int) := by omega
        rw [Int.natCast_mul, show ((lo.natAbs : Nat) : Int) = lo from by omega] at k'
        simpa [sg] using k'
    · have hi0 : 0 ≤ hi := by
        rcases Int.lt_or_le hi 0 with h | h
        · have := Int.mul_neg_of_neg_of_pos h hn; omega
        · exact h
      have k := d3 hi.natAbs hhi (by
          have : (a.natAbs : Int) ≤ ((hi.natAbs * n.natAbs : Nat) : Int) := by
            rw [Int.natCast_mul, hnn, haa, show ((hi.natAbs : Nat) : Int) = hi from by omega]; exact h2
          omega)
      have k' : (Z : Int) ≤ ((hi.natAbs * one : Nat) : Int) := by omega
      rw [Int.natCast_mul, show ((hi.natAbs : Nat) : Int) = hi from by omega] at k'
      simpa [sg] using k'
  | true =>
    have a0 : a ≤ 0 := by
      rcases Int.lt_or_le 0 a with h | h
      · exfalso
        have := Int.mul_pos h ho
        rw [← ex] at this
        simp [sg] at this
        omega
      · exact h
    have haa : ((a.natAbs : Nat) : Int) = -a := by omega
    refine ⟨?_, ?_, fun h => .inr (by omega)⟩
    · have lo0 : lo ≤ 0 := by
        rcases Int.lt_or_le 0 lo with h | h
        · have := Int.mul_pos h hn; omega
        · exact h
      have k := d3 lo.natAbs hlo (by
          have : (a.natAbs : Int) ≤ ((lo.natAbs * n.natAbs : Nat) : Int) := by
            rw [Int.natCast_mul, hnn, haa, show ((lo.natAbs : Nat) : Int) = -lo from by omega, Int.neg_mul]; omega
          omega)
      have k' : (Z : Int) ≤ ((lo.natAbs * one : Nat) : Int) := by omega
      rw [Int.natCast_mul, show ((lo.natAbs : Nat) : Int) = -lo from by omega, Int.neg_mul] at k'
      simp only [sg, if_true]
      omega
    · by_cases l0 : 0 ≤ hi
      · have := Int.mul_nonneg l0 (Int.le_of_lt ho)
        simp only [sg, if_true]
        omega
      · have k := d4 hi.natAbs hhi (by
          have : ((hi.natAbs * n.natAbs : Nat) : Int) ≤ (a.natAbs : Int) := by
            rw [Int.natCast_mul, hnn, haa, show ((hi.natAbs : Nat) : Int) = -hi from by omega, Int.neg_mul]; omega
          omega)
        have k' : ((hi.natAbs * one : Nat) : Int) ≤ (Z : Int) := by omega
        rw [Int.natCast_mul, show ((hi.natAbs : Nat) : Int) = -hi from by omega, Int.neg_mul] at k'
        simp only [sg, if_true]
        omega
end Go.Proofs.Qxb6001350aMods.Fl
