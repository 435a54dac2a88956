/-
  The plain law under FnFitOfConstantTimesIsFlat: what fit comes to where all times are one whole number.
-/
import Derived.Test.Qxb6001350aModsFit
import Derived.Test.Qxb6001350aModsPlain1
namespace Go.Proofs.Qxb6001350aMods.Fl
open Ieee

/-- not NaN, not below zero -/
def NN (x : Nat) : Prop := (∃ U, Num x false U) ∨ double.read x = .infinity false
/-- not NaN -/
def NF (x : Nat) : Prop := (∃ s U, Num x s U) ∨ ∃ s, double.read x = .infinity s

theorem sg_false (U : Nat) : sg false U = (U : Int) := rfl

theorem NN.nf {x : Nat} (h : NN x) : NF x := by
  rcases h with ⟨U, h⟩ | h
  · exact .inl ⟨_, U, h⟩
  · exact .inr ⟨_, h⟩

theorem near_nf (neg : Bool) (mag : Nat) (place : Int) : NF (double.nearest neg mag place) := by
  rcases near_any neg mag place with ⟨U, h⟩ | h
  · exact .inl ⟨_, U, h⟩
  · exact .inr ⟨_, h⟩
theorem near_nn (mag : Nat) (place : Int) : NN (double.nearest false mag place) := near_any false mag place
theorem inf_read (s : Bool) : double.read (double.word s double.infRung) = .infinity s := by cases s <;> rfl

theorem add_nn {x y : Nat} (hx : NN x) (hy : NN y) : ∃ r, double.add x y = some r ∧ NN r := by
  rcases hx with ⟨U, m, i, ex, hi, rfl⟩ | ex
  · rcases hy with ⟨W, n, j, ey, hj, rfl⟩ | ey
    · obtain ⟨neg, mag, place, hs, hp, hm, hn⟩ := sum_num false false m n i j hi hj
      have : neg = false := by
        rw [hn, sg_false, sg_false]
        generalize m * 2 ^ (i + 1074).toNat = A
        generalize n * 2 ^ (j + 1074).toNat = B
        split
        · rfl
        · simp; omega
      subst this
      refine ⟨_, ?_, near_nn mag place⟩
      unfold Format.add; rw [ex, ey, hs]; rfl
    · refine ⟨_, ?_, .inr (inf_read false)⟩
      unfold Format.add; rw [ex, ey]; rfl
  · rcases hy with ⟨W, n, j, ey, hj, rfl⟩ | ey
    · refine ⟨_, ?_, .inr (inf_read false)⟩
      unfold Format.add; rw [ex, ey]; rfl
    · refine ⟨_, ?_, .inr (inf_read false)⟩
      unfold Format.add; rw [ex, ey]; rfl

theorem sub_nf {x y : Nat} {t : Bool} {W : Nat} (hx : NF x) (hy : Num y t W) : ∃ r, double.sub x y = some r ∧ NF r := by
  obtain ⟨n, j, ey, hj, rfl⟩ := hy
  rcases hx with ⟨s, U, m, i, ex, hi, rfl⟩ | ⟨s, ex⟩
  · obtain ⟨neg, mag, place, hs, -, -, -⟩ := sum_num s (!t) m n i j hi hj
    refine ⟨_, ?_, near_nf neg mag place⟩
    unfold Format.sub; rw [ex, ey]; simp only [Datum.opposite, hs]; rfl
  · refine ⟨_, ?_, .inr ⟨s, inf_read s⟩⟩
    unfold Format.sub; rw [ex, ey]; rfl

theorem sq_nn {x : Nat} (hx : NF x) : ∃ r, double.mul x x = some r ∧ NN r := by
  rcases hx with ⟨s, U, m, i, ex, hi, rfl⟩ | ⟨s, ex⟩
  · refine ⟨_, ?_, near_nn (m * m) (i + i)⟩
    unfold Format.mul; rw [ex]; simp only [Datum.product, Bool.xor_self]; rfl
  · refine ⟨_, ?_, .inr (inf_read false)⟩
    unfold Format.mul; rw [ex]; simp only [Datum.product, Bool.xor_self]; rfl

theorem mul_nn {x y : Nat} {U W : Nat} (hx : Num x false U) (hy : Num y false W) : ∃ r, double.mul x y = some r ∧ NN r := by
  obtain ⟨m, i, ex, hi, rfl⟩ := hx
  obtain ⟨n, j, ey, hj, rfl⟩ := hy
  refine ⟨_, ?_, near_nn (m * n) (i + j)⟩
  unfold Format.mul; rw [ex, ey]; rfl

theorem ni_zero {x : Nat} {s : Bool} {U : Nat} (h : Num x s U) (h0 : U = 0) : NI x 0 := ⟨s, U, h, by subst h0; cases s <;> simp [sg]⟩
theorem ni_zero_num {x : Nat} (h : NI x 0) : ∃ s, Num x s 0 := by
  obtain ⟨s, U, h, e⟩ := h
  have : U = 0 := by
    have := sg_natAbs s U
    rw [e] at this
    simpa using this.symm
  subst this
  exact ⟨s, h⟩

theorem mul_zeroR {x y : Nat} {s : Bool} {U : Nat} (hx : Num x s U) (hy : NI y 0) : ∃ r, double.mul x y = some r ∧ NI r 0 := by
  obtain ⟨t, hy⟩ := ni_zero_num hy
  obtain ⟨r, Z, h1, h2, h3, -⟩ := mul_fin hx hy rep_zero (by simp)
  exact ⟨r, h1, ni_zero h2 (Nat.le_zero.1 (h3 0 rep_zero (by simp)))⟩
theorem mul_zeroL {x y : Nat} {s : Bool} {U : Nat} (hx : Num x s U) (hy : NI y 0) : ∃ r, double.mul y x = some r ∧ NI r 0 := by
  obtain ⟨t, hy⟩ := ni_zero_num hy
  obtain ⟨r, Z, h1, h2, h3, -⟩ := mul_fin hy hx rep_zero (by simp)
  exact ⟨r, h1, ni_zero h2 (Nat.le_zero.1 (h3 0 rep_zero (by simp)))⟩

/-- nought by something above nought -/
theorem div_zero_nn {x y : Nat} (hx : NI x 0) (hy : NN y) (hpos : double.order y 0 = some .gt) : ∃ r, double.div x y = some r ∧ NI r 0 := by
  obtain ⟨s, m, i, ex, hi, hU⟩ := ni_zero_num hx
  have hm : m = 0 := by
    rcases Nat.mul_eq_zero.1 hU.symm with h | h
    · exact h
    · have := pp (i + 1074).toNat; omega
  subst hm
  rcases hy with ⟨W, hy⟩ | ey
  · have hW : W ≠ 0 := by
      intro h0
      rw [ord_num hy (show Num 0 false 0 from ⟨0, -1074, rfl, by omega, by simp⟩), h0] at hpos
      simp [sg, compare, compareOfLessAndEq] at hpos
    obtain ⟨n, j, ey, hj, rfl⟩ := hy
    have hn : n ≠ 0 := by
      intro h0; subst h0; simp at hW
    refine ⟨_, div_eq ex ey hn, ?_⟩
    have e : 2 * (0 * 2 ^ (54 + n.log2 - Nat.log2 0) / n) + (0 * 2 ^ (54 + n.log2 - Nat.log2 0) % n != 0).toNat = 0 := by simp
    rw [e]
    obtain ⟨Z, h1, h2, -⟩ := near_fin (s ^^ false) 0 (i - j - (54 + n.log2 - Nat.log2 0 : Nat) - 1) (i - j - (54 + n.log2 - Nat.log2 0 : Nat) - 1 + 1074).natAbs (by omega) rep_zero (by rw [Nat.zero_mul]; exact Nat.zero_le _)
    exact ni_zero h1 (Nat.le_zero.1 (h2 0 rep_zero (by rw [Nat.zero_mul]; exact Nat.zero_le _)))
  · refine ⟨double.nearest (s ^^ false) 0 0, ?_, ?_⟩
    · unfold Format.div; rw [ex, ey]; rfl
    · obtain ⟨Z, h1, h2, -⟩ := near_fin (s ^^ false) 0 0 0 (by omega) rep_zero (by rw [Nat.zero_mul]; exact Nat.zero_le _)
      exact ni_zero h1 (Nat.le_zero.1 (h2 0 rep_zero (by rw [Nat.zero_mul]; exact Nat.zero_le _)))

theorem nn_not_lt {x y : Nat} (hx : NN x) (hy : NI y 0) : double.order x y ≠ some .lt := by
  obtain ⟨t, hy⟩ := ni_zero_num hy
  rcases hx with ⟨U, hx⟩ | ex
  · rw [ord_num hx hy]
    have h1 : ¬ (sg false U < sg t 0) := by cases t <;> simp [sg] <;> omega
    simp only [compare, compareOfLessAndEq, if_neg h1]
    split <;> simp
  · obtain ⟨m, i, ey, -, -⟩ := hy
    unfold Format.order
    rw [ex, ey]
    simp [Datum.order]

/-! ### bounded numbers that are nought or at least one -/
def BO (x V : Nat) : Prop := ∃ U, Num x false U ∧ U ≤ V ∧ (U = 0 ∨ one ≤ U)

theorem rep_one : Rep one := rep_pow (e := K) (by have := K_eq; omega)
theorem rep_mul {k e : Nat} (hk : k < 2 ^ 53) (he : e ≤ 900) : Rep (k * (2 ^ e * one)) :=
  ⟨k, e + K, hk, by have := K_eq; omega, by rw [one_eq, ← Nat.pow_add]⟩

theorem add_bo {x y V1 V2 V : Nat} (hx : BO x V1) (hy : BO y V2) (hV : Rep V) (h : V1 + V2 ≤ V) : ∃ r, double.add x y = some r ∧ BO r V := by
  obtain ⟨U, nx, u1, u2⟩ := hx
  obtain ⟨W, ny, w1, w2⟩ := hy
  have tot : (sg false U + sg false W).natAbs = U + W := by rw [sg_false, sg_false]; omega
  have neg : (if sg false U + sg false W = 0 then false && false else decide (sg false U + sg false W < 0)) = false := by
    rw [sg_false, sg_false]
    split
    · rfl
    · simp; omega
  obtain ⟨r, Z, h1, h2, h3, h4⟩ := add_fin nx ny hV (by omega)
  rw [tot] at h3 h4
  rw [neg] at h2
  refine ⟨r, h1, Z, h2, h3 V hV (by omega), ?_⟩
  by_cases h0 : U = 0 ∧ W = 0
  · left
    exact Nat.le_zero.1 (h3 0 rep_zero (by omega))
  · right
    exact h4 one rep_one (by omega)

theorem mul_bo {x y V1 V2 V : Nat} (hx : BO x V1) (hy : BO y V2) (hV : Rep V) (h : V1 * V2 ≤ V * one) : ∃ r, double.mul x y = some r ∧ BO r V := by
  obtain ⟨U, nx, u1, u2⟩ := hx
  obtain ⟨W, ny, w1, w2⟩ := hy
  have hle : U * W ≤ V * one := Nat.le_trans (Nat.mul_le_mul u1 w1) h
  obtain ⟨r, Z, h1, h2, h3, h4⟩ := mul_fin nx ny hV hle
  refine ⟨r, h1, Z, h2, h3 V hV hle, ?_⟩
  rcases u2 with h0 | h0
  · left
    refine Nat.le_zero.1 (h3 0 rep_zero ?_)
    rw [h0, Nat.zero_mul, Nat.zero_mul]; exact Nat.le_refl _
  · rcases w2 with h5 | h5
    · left
      refine Nat.le_zero.1 (h3 0 rep_zero ?_)
      rw [h5, Nat.mul_zero, Nat.zero_mul]; exact Nat.le_refl _
    · right
      exact h4 one rep_one (Nat.mul_le_mul h0 h5)

theorem F_bo (s e : Nat) (he : e ≤ 900) (hs : s ≤ 2 ^ e) : BO (F s) (2 ^ e * one) := by
  have hr : Rep (2 ^ e * one) := by
    have := rep_mul (k := 1) (e := e) (by omega) he
    rwa [Nat.one_mul] at this
  have ea : ((s : Int)).natAbs = s := Int.natAbs_natCast s
  obtain ⟨U, h1, h2, h3⟩ := F_near (s : Int) hr (by rw [ea]; exact Nat.mul_le_mul_right _ hs)
  rw [ea] at h2 h3
  have neg : decide ((s : Int) < 0) = false := by simp
  rw [neg] at h1
  refine ⟨U, h1, h2 _ hr (Nat.mul_le_mul_right _ hs), ?_⟩
  rcases Nat.eq_zero_or_pos s with h0 | h0
  · left
    refine Nat.le_zero.1 (h2 0 rep_zero ?_)
    rw [h0, Nat.zero_mul]; exact Nat.le_refl _
  · right
    refine h3 one rep_one ?_
    have := Nat.mul_le_mul_right one h0
    rwa [Nat.succ_mul, Nat.zero_mul, Nat.zero_add] at this

theorem fold_inv {α : Type} (N : Nat) (P : Nat → Nat → Prop) (f : Option Nat → α → Option Nat) : ∀ (l : List α) (k x : Nat), P k x → k + l.length ≤ N → (∀ k x a, a ∈ l → k < N → P k x → ∃ r, f (some x) a = some r ∧ P (k + 1) r) →
    ∃ r, l.foldl f (some x) = some r ∧ P (k + l.length) r := by
  intro l
  induction l with
  | nil => intro k x h _ _; exact ⟨x, rfl, h⟩
  | cons a l ih =>
    intro k x h hN hs
    rw [List.length_cons] at hN
    obtain ⟨r, h1, h2⟩ := hs k x a (by simp) (by omega) h
    obtain ⟨r', h3, h4⟩ := ih (k + 1) r h2 (by omega) (fun k x b hb => hs k x b (by simp [hb]))
    refine ⟨r', by rw [List.foldl_cons, h1]; exact h3, ?_⟩
    rw [List.length_cons, Nat.add_comm l.length 1, ← Nat.add_assoc]
    exact h4

theorem zero_num : Num 0 false 0 := ⟨0, -1074, rfl, by omega, by simp⟩

/-- a sum of bounded numbers -/
theorem acc_bo (f : Nat × Nat → Option Nat) (rows : List (Nat × Nat)) (e : Nat) (he : e ≤ 900) (hl : rows.length ≤ 65536) (h : ∀ r ∈ rows, ∃ v, f r = some v ∧ BO v (2 ^ e * one)) :
    ∃ r, accA f rows = some r ∧ BO r (rows.length * (2 ^ e * one)) := by
  have h0 : BO 0 (0 * (2 ^ e * one)) := ⟨0, zero_num, Nat.zero_le _, .inl rfl⟩
  obtain ⟨r, h1, h2⟩ := fold_inv 65536 (fun k x => BO x (k * (2 ^ e * one))) (fun a r => addA a (f r)) rows 0 0 h0 (by omega) (by
    intro k x a ha hk hx
    obtain ⟨v, hv, bv⟩ := h a ha
    obtain ⟨r, h1, h2⟩ := add_bo hx bv (rep_mul (k := k + 1) (e := e) (by omega) he) (by rw [Nat.succ_mul]; exact Nat.le_refl _)
    exact ⟨r, by rw [hv]; exact h1, h2⟩)
  rw [Nat.zero_add] at h2
  exact ⟨r, h1, h2⟩

theorem acc_ni (f : Nat × Nat → Option Nat) (rows : List (Nat × Nat)) (h : ∀ r ∈ rows, ∃ v, f r = some v ∧ NI v 0) : ∃ r, accA f rows = some r ∧ NI r 0 := by
  exact fold_inv rows.length (fun _ x => NI x 0) (fun a r => addA a (f r)) rows 0 0 zero_ni (by omega) (by
    intro k x a ha hk hx
    obtain ⟨v, hv, bv⟩ := h a ha
    obtain ⟨r, h1, h2⟩ := add_ni hx bv (by decide)
    exact ⟨r, by rw [hv]; exact h1, h2⟩)

theorem acc_nn (f : Nat × Nat → Option Nat) (rows : List (Nat × Nat)) (h : ∀ r ∈ rows, ∃ v, f r = some v ∧ NN v) : ∃ r, accA f rows = some r ∧ NN r := by
  exact fold_inv rows.length (fun _ x => NN x) (fun a r => addA a (f r)) rows 0 0 (.inl ⟨0, zero_num⟩) (by omega) (by
    intro k x a ha hk hx
    obtain ⟨v, hv, bv⟩ := h a ha
    obtain ⟨r, h1, h2⟩ := add_nn hx bv
    exact ⟨r, by rw [hv]; exact h1, h2⟩)

/-- A quotient by a number of at least one, with its bound. -/
theorem div_bd {x y : Nat} {s t : Bool} {U W e : Nat} (hx : Num x s U) (hy : Num y t W) (he : e ≤ 900) (hU : U ≤ 2 ^ e * one) (hW : one ≤ W) :
    ∃ r Z, double.div x y = some r ∧ Num r (s ^^ t) Z ∧ Z ≤ 2 ^ (54 + e) * one := by
  obtain ⟨m, i, ex, hi, rfl⟩ := hx
  obtain ⟨N, j, ey, hj, rfl⟩ := hy
  have hN : N ≠ 0 := by
    intro h0; subst h0
    have := one_pos
    omega
  have hNb := read_bound ey
  obtain ⟨more, hmore⟩ : ∃ k, 54 + N.log2 - m.log2 = k := ⟨_, rfl⟩
  have hdiv := div_eq ex ey hN
  rw [hmore] at hdiv
  obtain ⟨I, hI⟩ : ∃ I : Nat, i = (I : Int) - 1074 := ⟨(i + 1074).toNat, by omega⟩
  obtain ⟨J, hJ⟩ : ∃ J : Nat, j = (J : Int) - 1074 := ⟨(j + 1074).toNat, by omega⟩
  have eI : (i + 1074).toNat = I := by omega
  have eJ : (j + 1074).toNat = J := by omega
  rw [eI] at hU
  rw [eJ] at hW
  have hq := quo_le (d := m * 2 ^ more) (n := N) (K := m * 2 ^ more) (by omega) (Nat.le_mul_of_pos_right _ (by omega))
  generalize 2 * (m * 2 ^ more / N) + (m * 2 ^ more % N != 0).toNat = q at *
  have place : (i - j - (more : Nat) - 1 + 1074 + ((J + more + 1 : Nat) : Int)).toNat = I + K := by have := K_eq; omega
  have key : q * 2 ^ (I + K) ≤ 2 ^ (54 + e) * one * 2 ^ (J + more + 1) := by
    have k1 : q * 2 ^ (I + K) ≤ 2 * (m * 2 ^ more) * 2 ^ (I + K) := Nat.mul_le_mul_right _ hq
    have k2 : 2 * (m * 2 ^ more) * 2 ^ (I + K) = (m * 2 ^ I) * (one * 2 ^ (more + 1)) := by
      rw [one_eq, Nat.pow_add 2 I, Nat.pow_succ 2 more]
      generalize 2 ^ more = a
      generalize 2 ^ I = b
      generalize 2 ^ K = c
      simp only [Nat.mul_assoc, Nat.mul_comm, Nat.mul_left_comm]
    have k3 : (m * 2 ^ I) * (one * 2 ^ (more + 1)) ≤ 2 ^ e * one * (one * 2 ^ (more + 1)) := Nat.mul_le_mul_right _ hU
    have k4 : one ≤ 2 ^ 53 * 2 ^ J := Nat.le_trans hW (Nat.mul_le_mul_right _ (Nat.le_of_lt hNb))
    have k5 : 2 ^ e * one * (one * 2 ^ (more + 1)) ≤ 2 ^ e * one * (2 ^ 53 * 2 ^ J * 2 ^ (more + 1)) := Nat.mul_le_mul_left _ (Nat.mul_le_mul_right _ k4)
    have k6 : 2 ^ e * one * (2 ^ 53 * 2 ^ J * 2 ^ (more + 1)) ≤ 2 ^ (54 + e) * one * 2 ^ (J + more + 1) := by
      rw [one_eq, ← Nat.pow_add, ← Nat.pow_add, ← Nat.pow_add, ← Nat.pow_add, ← Nat.pow_add, ← Nat.pow_add]
      exact Nat.pow_le_pow_right (by omega) (by omega)
    omega
  have hr : Rep (2 ^ (54 + e) * one) := by
    rw [one_eq, ← Nat.pow_add]
    exact rep_pow (by have := K_eq; omega)
  obtain ⟨Z, h1, h2, -⟩ := near_fin (s ^^ t) q (i - j - (more : Nat) - 1) (J + more + 1) (by omega) hr (by rw [place]; exact key)
  rw [place] at h2
  exact ⟨_, Z, hdiv, h1, h2 _ hr key⟩

theorem sum_replicate (n : Nat) (t : Int) : (List.replicate n t).sum = t * n := by
  induction n with
  | zero => simp
  | succ n ih => rw [List.replicate_succ, List.sum_cons, ih]; simp [Int.mul_add]; omega

/-- the mean of n times one whole number -/
theorem mean_const (n : Nat) (t : Int) (h0 : 0 < n) (hn : n ≤ 65536) (ht : t.natAbs ≤ 2 ^ 32) : ∃ r, meanA (List.replicate n (F t)) = some r ∧ NI r t := by
  have hb : ∀ z ∈ List.replicate n t, z.natAbs ≤ 2 ^ 32 := fun z hz => by rw [List.eq_of_mem_replicate hz]; exact ht
  obtain ⟨x, e1, hx⟩ := sum_ni (List.replicate n t) hb (by simpa using hn)
  have ab := sum_abs (List.replicate n t) hb
  rw [List.map_replicate] at e1
  rw [sum_replicate] at hx ab
  rw [List.length_replicate] at ab
  have hy : NI (F (n : Int)) (n : Int) := F_ni _ (by omega)
  obtain ⟨r, s, Z, d1, d2, d3, d4, -⟩ := div_ni (lo := t) (hi := t) hx hy (by omega) (by omega) (by omega) (by omega) (Int.le_refl _) (Int.le_refl _)
  refine ⟨r, ?_, s, Z, d2, by omega⟩
  unfold meanA
  rw [e1, List.length_replicate]
  exact d1

theorem eq_replicate {α β : Type} (l : List α) (f : α → β) (b : β) (h : ∀ a ∈ l, f a = b) : l.map f = List.replicate l.length b := by
  induction l with
  | nil => rfl
  | cons a l ih => rw [List.map_cons, h a (by simp), ih (fun x hx => h x (by simp [hx])), List.length_cons, List.replicate_succ]

theorem bo_num {x V : Nat} (h : BO x V) : ∃ U, Num x false U := by
  obtain ⟨U, h, -, -⟩ := h
  exact ⟨U, h⟩

theorem compare_ge {t : Int} (h : 0 ≤ t) : (compare t 0 = Ordering.gt ∨ compare t 0 = Ordering.eq) := by
  rcases Int.lt_or_eq_of_le h with k | k
  · left
    have h1 : ¬ t < 0 := by omega
    have h2 : ¬ t = 0 := by omega
    simp [compare, compareOfLessAndEq, h1, h2]
  · right; rw [← k]; simp [compare, compareOfLessAndEq]

theorem pow_prod (a b : Nat) : 2 ^ a * one * (2 ^ b * one) ≤ 2 ^ (a + b) * one * one := by
  rw [Nat.mul_mul_mul_comm, ← Nat.pow_add, Nat.mul_assoc (2 ^ (a + b))]
  exact Nat.le_refl _

theorem fits_flat (rows : List (Nat × Nat)) (t : Nat) (h0 : 0 < rows.length) (hl : rows.length ≤ 65536) (ht : t ≤ 2 ^ 32)
    (hrows : ∀ r ∈ rows, r.1 ≤ 2 ^ 64 ∧ r.2 = F t) : ∃ c p, FitsTo rows (some c) (some p) ∧ NI c t ∧ NI p 0 := by
  -- the two means
  obtain ⟨tm, etm, ntm⟩ : ∃ tm, tmA rows = some tm ∧ NI tm t := by
    unfold tmA
    rw [eq_replicate rows _ (F t) (fun r hr => (hrows r hr).2)]
    exact mean_const rows.length t h0 hl (by omega)
  obtain ⟨sm, Zm, esm, nsm, bsm⟩ : ∃ sm Z, smA rows = some sm ∧ Num sm false Z ∧ Z ≤ 2 ^ (54 + 80) * one := by
    obtain ⟨S, eS, U, nS, bS, -⟩ := acc_bo (fun r => some (F r.1)) rows 64 (by omega) hl (fun r hr => ⟨_, rfl, F_bo r.1 64 (by omega) (hrows r hr).1⟩)
    obtain ⟨s', W, nW, eW⟩ := F_ni (rows.length : Int) (by omega)
    have hW : s' = false ∧ W = rows.length * one := by
      have h1 := sg_natAbs s' W
      rw [eW, natAbs_one, Int.natAbs_natCast] at h1
      refine ⟨?_, h1.symm⟩
      cases s' with
      | false => rfl
      | true =>
        have h2 := Nat.mul_pos h0 one_pos
        have h3 : (0 : Int) < (rows.length : Int) * (one : Int) := Int.mul_pos (by omega) one_pos'
        rw [← eW] at h3
        simp [sg] at h3
        omega
    obtain ⟨hs', hW'⟩ := hW
    rw [hs', hW'] at nW
    have bS' : U ≤ 2 ^ 80 * one := by
      refine Nat.le_trans bS ?_
      rw [← Nat.mul_assoc]
      refine Nat.mul_le_mul_right _ ?_
      exact Nat.le_trans (Nat.mul_le_mul_right _ hl) (by decide)
    have hone : one ≤ rows.length * one := Nat.le_mul_of_pos_left _ h0
    obtain ⟨r, Z, d1, d2, d3⟩ := div_bd nS nW (e := 80) (by omega) bS' hone
    refine ⟨r, Z, ?_, d2, d3⟩
    unfold smA meanA
    have e1 : sumA (rows.map fun r => F r.1) = some S := by
      rw [← eS]
      unfold sumA accA
      rw [List.foldl_map]
    rw [e1, List.length_map]
    exact d1
  -- the gaps of the sizes
  have hdx : ∀ r ∈ rows, ∃ d s D, subA (some (F r.1)) (some sm) = some d ∧ Num d s D := by
    intro r hr
    obtain ⟨U, nU, bU, -⟩ := F_bo r.1 64 (by omega) (hrows r hr).1
    have hV : Rep (2 ^ (54 + 80) * one) := by
      rw [one_eq, ← Nat.pow_add]
      exact rep_pow (by have := K_eq; omega)
    have bU' : U ≤ 2 ^ (54 + 80) * one := Nat.le_trans bU (Nat.mul_le_mul_right _ (Nat.pow_le_pow_right (by omega) (by omega)))
    obtain ⟨d, D, e1, e2, -, -⟩ := sub_fin nU nsm hV (by
      rw [sg_not, sg_false, sg_false]
      omega)
    exact ⟨d, _, D, e1, e2⟩
  obtain ⟨gs, egs, ngs⟩ : ∃ gs, accA (gsF (smA rows)) rows = some gs ∧ NN gs := by
    rw [esm]
    refine acc_nn _ rows fun r hr => ?_
    obtain ⟨d, s, D, e1, e2⟩ := hdx r hr
    unfold gsF
    rw [e1]
    exact sq_nn (.inl ⟨s, D, e2⟩)
  obtain ⟨gp, egp, ngp⟩ : ∃ gp, accA (gpF (smA rows) (tmA rows)) rows = some gp ∧ NI gp 0 := by
    rw [esm, etm]
    refine acc_ni _ rows fun r hr => ?_
    obtain ⟨d, s, D, e1, e2⟩ := hdx r hr
    obtain ⟨z, e3, e4⟩ := sub_ni (F_ni (t : Int) (by omega)) ntm (by omega)
    have ez : (t : Int) - t = 0 := by omega
    rw [ez] at e4
    unfold gpF
    rw [e1, (hrows r hr).2]
    have e5 : subA (some (F t)) (some tm) = some z := e3
    rw [e5]
    exact mul_zeroR e2 e4
  by_cases hgt : double.order gs 0 = some .gt
  · obtain ⟨pu, e1, npu⟩ := div_zero_nn ngp ngs hgt
    obtain ⟨q, e2, nq⟩ := mul_zeroL nsm npu
    obtain ⟨c, e3, nc⟩ := sub_ni ntm nq (by omega)
    have ec : (t : Int) - 0 = t := by omega
    rw [ec] at nc
    refine ⟨c, pu, .inl ⟨gs, gp, sm, tm, pu, q, c, egs, egp, esm, etm, hgt, e1, e2, e3, ?_, ?_, rfl, rfl⟩, nc, npu⟩
    · rw [ord_ni nc zero_ni]
      rcases compare_ge (t := (t : Int)) (by omega) with h | h
      · left; rw [h]
      · right; rw [h]
    · right
      rw [ord_ni npu zero_ni]
      simp [compare, compareOfLessAndEq]
  · have hgt' : ordA (accA (gsF (smA rows)) rows) (some 0) ≠ some .gt := by rw [egs]; exact hgt
    obtain ⟨sq, esq, Zq, nsq, -, oz⟩ := acc_bo sqF rows (64 + 64) (by omega) hl (fun r hr => by
      have hF := F_bo r.1 64 (by omega) (hrows r hr).1
      have hV : Rep (2 ^ (64 + 64) * one) := by
        rw [one_eq, ← Nat.pow_add]
        exact rep_pow (by have := K_eq; omega)
      obtain ⟨v, e1, e2⟩ := mul_bo hF hF hV (pow_prod 64 64)
      exact ⟨v, e1, e2⟩)
    by_cases hsq : double.order sq 0 = some .gt
    · have hone : one ≤ Zq := by
        rcases oz with h | h
        · exfalso
          rw [ord_num nsq zero_num, h] at hsq
          simp [sg, compare, compareOfLessAndEq] at hsq
        · exact h
      have hFt := F_bo t 32 (by omega) ht
      obtain ⟨pr, epr, Up, npr, bpr, -⟩ := acc_bo prF rows (64 + 32) (by omega) hl (fun r hr => by
        have hF := F_bo r.1 64 (by omega) (hrows r hr).1
        have hV : Rep (2 ^ (64 + 32) * one) := by
          rw [one_eq, ← Nat.pow_add]
          exact rep_pow (by have := K_eq; omega)
        obtain ⟨v, e1, e2⟩ := mul_bo hF hFt hV (pow_prod 64 32)
        refine ⟨v, ?_, e2⟩
        unfold prF
        rw [(hrows r hr).2]
        exact e1)
      have bpr' : Up ≤ 2 ^ 112 * one := by
        refine Nat.le_trans bpr ?_
        rw [← Nat.mul_assoc]
        refine Nat.mul_le_mul_right _ ?_
        exact Nat.le_trans (Nat.mul_le_mul_right _ hl) (by decide)
      obtain ⟨q, Zd, eq, nq, -⟩ := div_bd npr nsq (e := 112) (by omega) bpr' hone
      -- the residual with the constant at nought: not below nought
      obtain ⟨r1, er1, nr1⟩ : ∃ r1, residA (some 0) (some q) rows = some r1 ∧ NN r1 := by
        refine fold_inv rows.length (fun _ x => NN x) (resStep (some 0) (some q)) rows 0 0 (.inl ⟨0, zero_num⟩) (by omega) ?_
        intro k x a ha hk hx
        obtain ⟨U, nU⟩ := bo_num (F_bo a.1 64 (by omega) (hrows a ha).1)
        obtain ⟨V, nV⟩ := bo_num hFt
        obtain ⟨m1, e1, n1⟩ := mul_nn nq nU
        obtain ⟨m2, e2, n2⟩ := add_nn (.inl ⟨0, zero_num⟩) n1
        obtain ⟨m3, e3, n3⟩ := sub_nf n2.nf nV
        obtain ⟨m4, e4, n4⟩ := sq_nn n3
        obtain ⟨m5, e5, n5⟩ := add_nn hx n4
        refine ⟨m5, ?_, n5⟩
        have k1 : predA (some 0) (some q) a.1 = some m2 := by
          have : mulA (some q) (some (F a.1)) = some m1 := e1
          unfold predA; rw [this]; exact e2
        have k2 : subA (some m2) (some (F t)) = some m3 := e3
        unfold resStep
        rw [k1, (hrows a ha).2, k2]
        have k3 : mulA (some m3) (some m3) = some m4 := e4
        rw [k3]; exact e5
      -- the residual of the flat model: nought
      obtain ⟨r2, er2, nr2⟩ : ∃ r2, residA (some tm) (some 0) rows = some r2 ∧ NI r2 0 := by
        refine fold_inv rows.length (fun _ x => NI x 0) (resStep (some tm) (some 0)) rows 0 0 zero_ni (by omega) ?_
        intro k x a ha hk hx
        obtain ⟨U, nU⟩ := bo_num (F_bo a.1 64 (by omega) (hrows a ha).1)
        obtain ⟨m1, e1, n1⟩ := mul_zeroL nU zero_ni
        obtain ⟨m2, e2, n2⟩ := add_ni ntm n1 (by omega)
        obtain ⟨m3, e3, n3⟩ := sub_ni n2 (F_ni (t : Int) (by omega)) (by omega)
        have ez : (t : Int) + 0 - t = 0 := by omega
        rw [ez] at n3
        obtain ⟨m4, e4, n4⟩ := mul_ni n3 n3 (by decide)
        obtain ⟨m5, e5, n5⟩ := add_ni hx n4 (by decide)
        refine ⟨m5, ?_, by simpa using n5⟩
        have k1 : predA (some tm) (some 0) a.1 = some m2 := by
          have : mulA (some 0) (some (F a.1)) = some m1 := e1
          unfold predA; rw [this]; exact e2
        have k2 : subA (some m2) (some (F t)) = some m3 := e3
        unfold resStep
        rw [k1, (hrows a ha).2, k2]
        have k3 : mulA (some m3) (some m3) = some m4 := e4
        rw [k3]; exact e5
      exact ⟨tm, 0, .inr (.inr ⟨pr, sq, tm, q, r1, r2, hgt', esq, hsq, epr, etm, eq, er1, er2, nn_not_lt nr1 nr2, rfl, rfl⟩), ntm, zero_ni⟩
    · exact ⟨tm, 0, .inr (.inl ⟨hgt', by rw [esq]; exact hsq, etm.symm, rfl⟩), ntm, zero_ni⟩
end Go.Proofs.Qxb6001350aMods.Fl
