/-
  Plain laws on Ieee.double: what rounding to nearest gives, as far as the four laws of the seat want it. No Go in sight.
-/
import Ieee.Arith
namespace Go.Proofs.Qxb6001350aMods.Fl
open Ieee

/-! ### powers -/
theorem pp (k : Nat) : 0 < 2 ^ k := Nat.two_pow_pos k
theorem mul_pow_le {a b k : Nat} (h : a * 2 ^ k ≤ b * 2 ^ k) : a ≤ b := Nat.le_of_mul_le_mul_right h (pp k)

/-! ### cut -/
theorem cut_eq (neg : Bool) (n drop : Nat) : ∃ b : Bool, Toward.even.cut neg n drop = n / 2 ^ min drop (n.log2 + 2) + b.toNat ∧ (b = true → 2 ^ min drop (n.log2 + 2) ≤ 2 * (n % 2 ^ min drop (n.log2 + 2))) := by
  unfold Toward.cut
  simp only [Nat.shiftLeft_eq, Nat.one_mul]
  refine ⟨_, rfl, ?_⟩
  intro h
  simp only [Bool.or_eq_true, decide_eq_true_eq, Bool.and_eq_true, beq_iff_eq] at h
  omega

theorem cut_le (neg : Bool) (n drop M : Nat) (h : n ≤ M * 2 ^ drop) : Toward.even.cut neg n drop ≤ M := by
  obtain ⟨b, e, hb⟩ := cut_eq neg n drop
  rw [e]
  clear e
  by_cases hd : drop ≤ n.log2 + 2
  · rw [Nat.min_eq_left hd] at *
    have hp := pp drop
    generalize 2 ^ drop = g at *
    have h1 := Nat.div_add_mod n g
    have h2 := Nat.mod_lt n hp
    generalize hq : n / g = q at *
    generalize hr : n % g = r at *
    have hqM : q ≤ M := by
      have : q * g ≤ M * g := by rw [Nat.mul_comm q g]; omega
      exact Nat.le_of_mul_le_mul_right this hp
    by_cases he : q = M
    · subst he
      have : r = 0 := by rw [Nat.mul_comm] at h1; omega
      subst this
      cases b
      · simp
      · have := hb rfl; omega
    · have := Bool.toNat_le b
      omega
  · have hm : min drop (n.log2 + 2) = n.log2 + 2 := by omega
    rw [hm] at hb ⊢
    have hn : n < 2 ^ (n.log2 + 1) := Nat.lt_log2_self
    have hg : 2 ^ (n.log2 + 2) = 2 * 2 ^ (n.log2 + 1) := by rw [Nat.pow_succ 2 (n.log2 + 1), Nat.mul_comm]
    generalize 2 ^ (n.log2 + 1) = g at *
    rw [hg, Nat.mod_eq_of_lt (by omega)] at hb
    rw [hg, Nat.div_eq_of_lt (by omega)]
    cases b
    · simp
    · have := hb rfl; omega

theorem cut_ge (neg : Bool) (n drop M : Nat) (h : M * 2 ^ drop ≤ n) : M ≤ Toward.even.cut neg n drop := by
  obtain ⟨b, e, _⟩ := cut_eq neg n drop
  rw [e]
  clear e
  by_cases hd : drop ≤ n.log2 + 2
  · rw [Nat.min_eq_left hd]
    have := (Nat.le_div_iff_mul_le (pp drop)).2 h
    omega
  · have hn : n < 2 ^ (n.log2 + 1) := Nat.lt_log2_self
    have hk : 2 ^ (n.log2 + 1) ≤ 2 ^ drop := Nat.pow_le_pow_right (by omega) (by omega)
    have hM : M = 0 := by
      rcases Nat.eq_zero_or_pos M with h0 | h0
      · exact h0
      · have : 1 * 2 ^ drop ≤ M * 2 ^ drop := Nat.mul_le_mul_right _ h0
        omega
    rw [hM]; exact Nat.zero_le _

/-! ### reading a word made of a rung -/
/-- x reads as the number of sign s and of magnitude U, in units of 2 ^ -1074. -/
def Num (x : Nat) (s : Bool) (U : Nat) : Prop := ∃ (m : Nat) (p : Int), double.read x = .number s m p ∧ -1074 ≤ p ∧ U = m * 2 ^ (p + 1074).toNat

/-- A magnitude that the format has (in units of 2 ^ -1074). -/
def Rep (V : Nat) : Prop := ∃ m p : Nat, m < 2 ^ 53 ∧ p ≤ 2045 ∧ V = m * 2 ^ p

theorem d_least : double.leastPlace = -1074 := by decide
theorem d_binade : double.binade = 2 ^ 52 := rfl
theorem d_sign : double.signWeight = 2 ^ 63 := rfl
theorem d_inf : double.infRung = 2047 * 2 ^ 52 := rfl
theorem d_frac : double.fractionBits = 52 := rfl

theorem read_word_neg (neg : Bool) (rung : Nat) (h : rung < 2 ^ 63) : (double.word neg rung) % 2 ^ 63 = rung ∧ ((double.word neg rung) / 2 ^ 63 % 2 == 1) = neg := by
  unfold Format.word
  rw [d_sign]
  cases neg
  · simp; omega
  · simp; omega

theorem read_word (neg : Bool) (L kept : Nat) (hk : kept ≤ 2 ^ 53) (hL : 0 < L → 2 ^ 52 ≤ kept) (hr : L * 2 ^ 52 + kept < 2047 * 2 ^ 52) :
    Num (double.word neg (L * 2 ^ 52 + kept)) neg (kept * 2 ^ L) := by
  have ⟨h1, h2⟩ := read_word_neg neg (L * 2 ^ 52 + kept) (by omega)
  unfold Num Format.read
  rw [d_sign, d_binade, d_inf, d_least]
  simp only [h1, h2]
  by_cases ha : L * 2 ^ 52 + kept < 2 ^ 52
  · rw [if_pos ha]
    have : L = 0 := by omega
    subst this
    refine ⟨_, _, rfl, by omega, ?_⟩
    simp
  · rw [if_neg ha, if_pos hr]
    refine ⟨_, _, rfl, by omega, ?_⟩
    by_cases hb : kept = 2 ^ 53
    · subst hb
      have e1 : (L * 2 ^ 52 + 2 ^ 53) % 2 ^ 52 = 0 := by omega
      have e2 : (L * 2 ^ 52 + 2 ^ 53) / 2 ^ 52 - 1 = L + 1 := by omega
      rw [e1, e2]
      have e3 : (-1074 + ((L + 1 : Nat) : Int) + 1074).toNat = L + 1 := by omega
      rw [e3, Nat.pow_succ]
      omega
    · by_cases hc : kept < 2 ^ 52
      · have : L = 0 := by omega
        omega
      · have e1 : (L * 2 ^ 52 + kept) % 2 ^ 52 = kept - 2 ^ 52 := by omega
        have e2 : (L * 2 ^ 52 + kept) / 2 ^ 52 - 1 = L := by omega
        rw [e1, e2]
        have e3 : (-1074 + ((L : Nat) : Int) + 1074).toNat = L := by omega
        rw [e3]
        have e4 : 2 ^ 52 + (kept - 2 ^ 52) = kept := by omega
        rw [e4]

theorem num_rep {x : Nat} {s : Bool} {U : Nat} (h : Num x s U) : Rep U := by
  obtain ⟨m, p, hr, hp, rfl⟩ := h
  unfold Format.read at hr
  rw [d_sign, d_binade, d_inf, d_least] at hr
  simp only at hr
  split at hr
  · cases hr
    exact ⟨x % 2 ^ 63, 0, by omega, by omega, by simp⟩
  · split at hr
    · cases hr
      refine ⟨_, _, ?_, ?_, rfl⟩
      · omega
      · omega
    · split at hr <;> cases hr

/-! ### rounding to nearest -/
/-- 'mag * 2 ^ place' against 'M * 2 ^ last', told over a common base. -/
theorem kept_le (neg : Bool) (mag : Nat) (place last : Int) (P Q M : Nat) (hPQ : (P : Int) - Q = place - last) (h : mag * 2 ^ P ≤ M * 2 ^ Q) :
    Toward.even.cut neg (mag <<< (place - last).toNat) (last - place).toNat ≤ M := by
  rw [Nat.shiftLeft_eq]
  apply cut_le
  by_cases hc : last ≤ place
  · have e1 : (last - place).toNat = 0 := by omega
    have e2 : P = (place - last).toNat + Q := by omega
    rw [e1]
    rw [e2, Nat.pow_add, ← Nat.mul_assoc] at h
    simpa using mul_pow_le h
  · have e1 : (place - last).toNat = 0 := by omega
    have e2 : Q = (last - place).toNat + P := by omega
    rw [e1]
    rw [e2, Nat.pow_add, ← Nat.mul_assoc] at h
    simpa using mul_pow_le h

theorem kept_ge (neg : Bool) (mag : Nat) (place last : Int) (P Q M : Nat) (hPQ : (P : Int) - Q = place - last) (h : M * 2 ^ Q ≤ mag * 2 ^ P) :
    M ≤ Toward.even.cut neg (mag <<< (place - last).toNat) (last - place).toNat := by
  rw [Nat.shiftLeft_eq]
  apply cut_ge
  by_cases hc : last ≤ place
  · have e1 : (last - place).toNat = 0 := by omega
    have e2 : P = (place - last).toNat + Q := by omega
    rw [e1]
    rw [e2, Nat.pow_add, ← Nat.mul_assoc] at h
    simpa using mul_pow_le h
  · have e1 : (place - last).toNat = 0 := by omega
    have e2 : Q = (last - place).toNat + P := by omega
    rw [e1]
    rw [e2, Nat.pow_add, ← Nat.mul_assoc] at h
    simpa using mul_pow_le h

/-- What 'nearest' makes of a number that is not nought: the rung 'L * 2 ^ 52 + kept', not above infinity's; 'kept * 2 ^ L' is at most (at least) every number of the format that the exact one is at most (at least). -/
theorem near_core (neg : Bool) (mag : Nat) (place : Int) (c : Nat) (hm : mag ≠ 0) (hc : 0 ≤ place + 1074 + c) :
    ∃ L kept : Nat, double.nearest neg mag place = double.word neg (min (L * 2 ^ 52 + kept) (2047 * 2 ^ 52)) ∧ kept ≤ 2 ^ 53 ∧ (0 < L → 2 ^ 52 ≤ kept) ∧
      (∀ m p : Nat, m < 2 ^ 53 → mag * 2 ^ (place + 1074 + c).toNat ≤ m * 2 ^ p * 2 ^ c → kept * 2 ^ L ≤ m * 2 ^ p) ∧
      (∀ m p : Nat, m < 2 ^ 53 → m * 2 ^ p * 2 ^ c ≤ mag * 2 ^ (place + 1074 + c).toNat → m * 2 ^ p ≤ kept * 2 ^ L) := by
  unfold Format.nearest
  rw [if_neg hm, d_frac, d_least, d_binade, d_inf]
  simp only
  generalize hl : max (place + ↑mag.log2 - ((52 : Nat) : Int)) (-1074) = last
  have hlast : -1074 ≤ last := by omega
  generalize hkept : Toward.even.cut neg (mag <<< (place - last).toNat) (last - place).toNat = kept
  obtain ⟨L, hL⟩ : ∃ L : Nat, last = (L : Int) - 1074 := ⟨(last + 1074).toNat, by omega⟩
  generalize hP : (place + 1074 + c).toNat = P
  have hP' : (P : Int) = place + 1074 + c := by omega
  have lo : 2 ^ mag.log2 ≤ mag := Nat.log2_self_le hm
  have hi : mag < 2 ^ (mag.log2 + 1) := Nat.lt_log2_self
  have eL : (last - -1074).toNat = L := by omega
  have hPQ : (P : Int) - ((L + c : Nat) : Int) = place - last := by omega
  have kge : 0 < L → 2 ^ 52 ≤ kept := by
    intro h0
    rw [← hkept]
    refine kept_ge neg mag place last P (L + c) _ hPQ ?_
    have e : 52 + (L + c) = mag.log2 + P := by omega
    rw [← Nat.pow_add, e, Nat.pow_add]
    exact Nat.mul_le_mul_right _ lo
  refine ⟨L, kept, by rw [eL], ?_, kge, ?_, ?_⟩
  · rw [← hkept]
    refine kept_le neg mag place last P (L + c) _ hPQ ?_
    have e : mag.log2 + 1 + P ≤ 53 + (L + c) := by omega
    rw [← Nat.pow_add]
    refine Nat.le_trans (Nat.mul_le_mul_right _ (Nat.le_of_lt hi)) ?_
    rw [← Nat.pow_add]
    exact Nat.pow_le_pow_right (by omega) e
  · intro m p hmm hle
    by_cases hp : L ≤ p
    · have e : m * 2 ^ p = (m * 2 ^ (p - L)) * 2 ^ L := by rw [Nat.mul_assoc, ← Nat.pow_add]; congr 2; omega
      rw [e]
      refine Nat.mul_le_mul_right _ ?_
      rw [← hkept]
      refine kept_le neg mag place last P (L + c) _ hPQ ?_
      rw [e, Nat.mul_assoc _ (2 ^ L), ← Nat.pow_add] at hle
      exact hle
    · exfalso
      have e : 52 + (L + c) = mag.log2 + P := by omega
      have h1 : 2 ^ (52 + (L + c)) ≤ mag * 2 ^ P := by
        rw [e, Nat.pow_add]; exact Nat.mul_le_mul_right _ lo
      have h2 : m * 2 ^ p * 2 ^ c < 2 ^ 53 * 2 ^ (p + c) := by
        rw [Nat.mul_assoc, ← Nat.pow_add]
        exact Nat.mul_lt_mul_of_pos_right hmm (pp _)
      have h3 : 2 ^ 53 * 2 ^ (p + c) ≤ 2 ^ (52 + (L + c)) := by
        rw [← Nat.pow_add]
        exact Nat.pow_le_pow_right (by omega) (by omega)
      omega
  · intro m p hmm hle
    by_cases hp : L ≤ p
    · have e : m * 2 ^ p = (m * 2 ^ (p - L)) * 2 ^ L := by rw [Nat.mul_assoc, ← Nat.pow_add]; congr 2; omega
      rw [e]
      refine Nat.mul_le_mul_right _ ?_
      rw [← hkept]
      refine kept_ge neg mag place last P (L + c) _ hPQ ?_
      rw [e, Nat.mul_assoc _ (2 ^ L), ← Nat.pow_add] at hle
      exact hle
    · have h1 : m * 2 ^ p ≤ 2 ^ 53 * 2 ^ p := Nat.mul_le_mul_right _ (Nat.le_of_lt hmm)
      have h2 : 2 ^ 53 * 2 ^ p ≤ 2 ^ 52 * 2 ^ L := by
        rw [← Nat.pow_add, ← Nat.pow_add]
        exact Nat.pow_le_pow_right (by omega) (by omega)
      have h3 : 2 ^ 52 * 2 ^ L ≤ kept * 2 ^ L := Nat.mul_le_mul_right _ (kge (by omega))
      omega

/-- The word of a number that is at most one of the format's: a number of the same sign, between all numbers of the format that hold the exact one between them. -/
theorem near_fin (neg : Bool) (mag : Nat) (place : Int) (c : Nat) (hc : 0 ≤ place + 1074 + c) {V : Nat} (hV : Rep V) (hle : mag * 2 ^ (place + 1074 + c).toNat ≤ V * 2 ^ c) :
    ∃ U, Num (double.nearest neg mag place) neg U ∧
      (∀ V', Rep V' → mag * 2 ^ (place + 1074 + c).toNat ≤ V' * 2 ^ c → U ≤ V') ∧
      (∀ V', Rep V' → V' * 2 ^ c ≤ mag * 2 ^ (place + 1074 + c).toNat → V' ≤ U) := by
  by_cases hm : mag = 0
  · subst hm
    refine ⟨0, ?_, fun _ _ _ => Nat.zero_le _, ?_⟩
    · have := read_word neg 0 0 (by omega) (by omega) (by omega)
      unfold Format.nearest
      simpa using this
    · intro V' _ h
      have : V' * 2 ^ c ≤ 0 * 2 ^ c := by omega
      exact mul_pow_le this
  · obtain ⟨L, kept, e, hk, hL, up, dn⟩ := near_core neg mag place c hm hc
    obtain ⟨m, p, h1, h2, rfl⟩ := hV
    have hU := up m p h1 hle
    have hr : L * 2 ^ 52 + kept < 2047 * 2 ^ 52 := by
      have hlt : kept * 2 ^ L < 2 ^ 53 * 2 ^ 2045 := by
        have a0 : ∀ E, p ≤ E → m * 2 ^ p ≤ m * 2 ^ E := fun E hE => Nat.mul_le_mul_left _ (Nat.pow_le_pow_right (by omega) hE)
        have a := a0 2045 h2
        have b0 : ∀ E, m * 2 ^ E < 2 ^ 53 * 2 ^ E := fun E => Nat.mul_lt_mul_of_pos_right h1 (pp E)
        have b := b0 2045
        exact Nat.lt_of_le_of_lt hU (Nat.lt_of_le_of_lt a b)
      by_cases a : L ≤ 2044
      · omega
      · by_cases b : L = 2045
        · subst b
          have := Nat.lt_of_mul_lt_mul_right hlt
          omega
        · exfalso
          have h3 : 2 ^ 52 * 2 ^ L ≤ kept * 2 ^ L := Nat.mul_le_mul_right _ (hL (by omega))
          have h40 : ∀ E, E + 1 ≤ L → 2 ^ 53 * 2 ^ E ≤ 2 ^ 52 * 2 ^ L := by
            intro E hE
            rw [← Nat.pow_add, ← Nat.pow_add]
            exact Nat.pow_le_pow_right (by omega) (by omega)
          have h4 := h40 2045 (by clear hlt; omega)
          exact Nat.lt_irrefl _ (Nat.lt_of_lt_of_le hlt (Nat.le_trans h4 h3))
    refine ⟨kept * 2 ^ L, ?_, ?_, ?_⟩
    · rw [e, Nat.min_eq_left (Nat.le_of_lt hr)]
      exact read_word neg L kept hk hL hr
    · rintro V' ⟨m', p', a, b, rfl⟩ h
      exact up m' p' a h
    · rintro V' ⟨m', p', a, b, rfl⟩ h
      exact dn m' p' a h

/-- Whatever is written: a number or an infinity of the sign. -/
theorem near_any (neg : Bool) (mag : Nat) (place : Int) : (∃ U, Num (double.nearest neg mag place) neg U) ∨ double.read (double.nearest neg mag place) = .infinity neg := by
  by_cases hm : mag = 0
  · subst hm
    have := read_word neg 0 0 (by omega) (by omega) (by omega)
    exact .inl ⟨0, by unfold Format.nearest; simpa using this⟩
  · obtain ⟨L, kept, e, hk, hL, -, -⟩ := near_core neg mag place (place + 1074).natAbs hm (by omega)
    rw [e]
    by_cases hr : L * 2 ^ 52 + kept < 2047 * 2 ^ 52
    · rw [Nat.min_eq_left (Nat.le_of_lt hr)]
      exact .inl ⟨_, read_word neg L kept hk hL hr⟩
    · rw [Nat.min_eq_right (by omega)]
      right
      have ⟨h1, h2⟩ := read_word_neg neg (2047 * 2 ^ 52) (by omega)
      unfold Format.read
      rw [d_sign, d_binade, d_inf, d_least]
      simp only [h1, h2]
      rfl
end Go.Proofs.Qxb6001350aMods.Fl
