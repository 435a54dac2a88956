/-
  FnDigitsSizeModel: the plain law, the walk.
-/
import Derived.Test.Qxb6001748aModsIn
namespace Go.Proofs.Qxb6001748aMods
open Go.RowKit (intOf Hid Grown)

/-! ### the plain law -/
/-- the number that a run of digits writes behind n -/
def valFrom (n : Nat) (l : List UInt8) : Nat := l.foldl (fun n c => n * 10 + (c.toNat - 48)) n
theorem valFrom_nil (n : Nat) : valFrom n [] = n := rfl
theorem valFrom_cons (n : Nat) (c : UInt8) (l : List UInt8) : valFrom n (c :: l) = valFrom (n * 10 + (c.toNat - 48)) l := by
  unfold valFrom
  rw [List.foldl_cons]
theorem valFrom_snoc (n : Nat) (l : List UInt8) (c : UInt8) : valFrom n (l ++ [c]) = valFrom n l * 10 + (c.toNat - 48) := by
  unfold valFrom
  rw [List.foldl_append, List.foldl_cons, List.foldl_nil]

theorem valFrom_ge (l : List UInt8) : ∀ n : Nat, n ≤ valFrom n l := by
  induction l with
  | nil => intro n; exact Nat.le_refl _
  | cons c l ih =>
    intro n
    rw [valFrom_cons]
    have := ih (n * 10 + (c.toNat - 48))
    omega

theorem valFrom_pow (l : List UInt8) : ∀ n : Nat, n * 10 ^ l.length ≤ valFrom n l := by
  induction l with
  | nil => intro n; rw [valFrom_nil]; simp
  | cons c l ih =>
    intro n
    rw [valFrom_cons, List.length_cons, Nat.pow_succ]
    have h := ih (n * 10 + (c.toNat - 48))
    have e : n * (10 ^ l.length * 10) = n * 10 * 10 ^ l.length := by rw [Nat.mul_comm (10 ^ l.length), Nat.mul_assoc]
    rw [e]
    exact Nat.le_trans (Nat.mul_le_mul_right _ (Nat.le_add_right _ _)) h

theorem valFrom_lt (l : List UInt8) : ∀ n : Nat, (∀ c ∈ l, c.toNat ≤ 57) → valFrom n l < (n + 1) * 10 ^ l.length := by
  induction l with
  | nil => intro n _; rw [valFrom_nil]; simp
  | cons c l ih =>
    intro n hl
    rw [valFrom_cons, List.length_cons, Nat.pow_succ]
    have hc := hl c (by simp)
    have h := ih (n * 10 + (c.toNat - 48)) (fun x hx => hl x (by simp [hx]))
    refine Nat.lt_of_lt_of_le h ?_
    rw [Nat.mul_comm (10 ^ l.length), ← Nat.mul_assoc]
    exact Nat.mul_le_mul_right _ (by omega)

theorem dsz_val (l : List UInt8) : ∀ n : Nat, n ≤ 1048576 → dsz l n = if valFrom n l ≤ 1048576 then valFrom n l else 1048577 := by
  induction l with
  | nil => intro n h; rw [dsz, valFrom_nil, if_pos h]
  | cons c l ih =>
    intro n h
    rw [dsz, valFrom_cons]
    by_cases h1 : 1048576 < n * 10 + (c.toNat - 48)
    · have := valFrom_ge l (n * 10 + (c.toNat - 48))
      rw [if_pos h1, if_neg (by omega)]
    · rw [if_neg h1]
      exact ih _ (by omega)

/-- nothing is lost with the zeros at the head -/
theorem val_drop (l : List UInt8) : ∀ (k : Nat), (∀ j, j < k → ∀ h : j < l.length, (l[j]'h).toNat = 48) → valFrom 0 (l.drop k) = valFrom 0 l := by
  induction l with
  | nil => intro k _; simp
  | cons c l ih =>
    intro k hk
    cases k with
    | zero => rfl
    | succ k =>
      have h0 := hk 0 (by omega) (by simp)
      simp only [List.getElem_cons_zero] at h0
      rw [List.drop_succ_cons, ih k (fun j hj h => by
        have := hk (j + 1) (by omega) (by simp; omega)
        simpa using this), valFrom_cons, h0]

theorem size_model (l r : List UInt8) (h1 : valFrom 0 r = valFrom 0 l) (h2 : ∀ c m, r = c :: m → 49 ≤ c.toNat) :
    dsz l 0 = if r.length ≤ 7 then (if valFrom 0 r ≤ 1048576 then valFrom 0 r else 1048577) else 1048577 := by
  rw [dsz_val l 0 (by omega), h1]
  by_cases h : r.length ≤ 7
  · rw [if_pos h]
  · rw [if_neg h]
    cases r with
    | nil => simp at h
    | cons c m =>
      have hc := h2 c m rfl
      rw [← h1, valFrom_cons]
      have hp := valFrom_pow m (0 * 10 + (c.toNat - 48))
      rw [List.length_cons] at h
      have hq : 10 ^ 7 ≤ 10 ^ m.length := Nat.pow_le_pow_right (by omega) (by omega)
      have hr : 1 * 10 ^ 7 ≤ (0 * 10 + (c.toNat - 48)) * 10 ^ m.length := Nat.mul_le_mul (by omega) hq
      rw [if_neg (by omega)]

theorem bytes15 (s : ByteArray) (w : World) (hs : s.size ≤ maxLen) :
    Calls Trym.prog 15 #[.string s] w fun e w' => e = .returned (.bool (decide (s.size ≤ 1048576))) ∧ w = w' := by
  unfold maxLen at hs
  by_cases h : s.size ≤ 1048576
  · have h1 : ¬ (1048576 : Int) < (s.size : Int) := by omega
    go_enter Trym.func15, Trym.ntmps15
    go_wp2
    go_ret
    exact ⟨by simp, rfl⟩
  · have h1 : (1048576 : Int) < (s.size : Int) := by omega
    go_enter Trym.func15, Trym.ntmps15
    go_wp2
    go_ret
    exact ⟨by simp [h], rfl⟩

theorem extract_toList (s : ByteArray) (k : Nat) : (s.extract k s.size).data.toList = s.data.toList.drop k := by
  rw [ByteArray.data_extract]
  simp [Array.toList_extract]
  rw [List.take_of_length_le]
  rw [List.length_drop, Array.length_toList]
  exact Nat.le_refl _

theorem take_next (r : ByteArray) (m : Nat) (h : m < r.size) : r.data.toList.take (m + 1) = r.data.toList.take m ++ [r[m]'h] := by
  rw [List.take_succ_eq_append_getElem (by simpa using h)]
  rfl

theorem val_next (r : ByteArray) (m : Nat) (h : m < r.size) (V c : Nat) (hV : V = valFrom 0 (r.data.toList.take m)) (hc : c = (r[m]'h).toNat) (hd : ∀ j (hj : j < r.size), (r[j]'hj).toNat ≤ 57) (h7 : r.size ≤ 7) :
    V * 10 + (c - 48) = valFrom 0 (r.data.toList.take (m + 1)) ∧ V * 10 + (c - 48) ≤ 9999999 := by
  have e : V * 10 + (c - 48) = valFrom 0 (r.data.toList.take (m + 1)) := by
    rw [take_next r m h, valFrom_snoc, ← hV, ← hc]
  refine ⟨e, ?_⟩
  rw [e]
  have hl := valFrom_lt (r.data.toList.take (m + 1)) 0 (by
    intro x hx
    have hx' := List.mem_of_mem_take hx
    obtain ⟨i, hi, rfl⟩ := List.getElem_of_mem hx'
    exact hd i (by simpa using hi))
  have hlen : (r.data.toList.take (m + 1)).length ≤ 7 := by
    have := List.length_take_le (m + 1) r.data.toList
    omega
  have hp : 10 ^ (r.data.toList.take (m + 1)).length ≤ 10 ^ 7 := Nat.pow_le_pow_right (by omega) hlen
  omega

set_option maxHeartbeats 1000000 in
theorem law5_main (s : ByteArray) (hs : s.size ≤ 1048576) (hd : allDig s = true) (w : World) :
    Calls Trym.prog 5 #[.string s] w fun e w' => e = .returned (.bool true) ∧ Grown w w' := by
  have HM : Hid (s.size ≤ maxLen) := by unfold maxLen Hid; omega
  have e1 : decide (s.size ≤ 1048576) = true := by simp; omega
  have t1 : ¬ (1048576 : Int) < (s.size : Int) := by omega
  have e2 := hd
  have HD : Hid (allDig s = true) := hd
  clear hd
  go_enter Trym.func5, Trym.ntmps5
  go_wp2_with fail
  refine (bytes15 s _ HM.out).mono ?_
  rintro e w' ⟨rfl, rfl⟩
  go_wp2_with fail
  refine (isDigits_any s _ HM.out).mono ?_
  rintro e w' ⟨rfl, rfl⟩
  go_wp2
  go_loop [4, 5] (fun wd t => ∃ k T : Nat, k ≤ 7 ∧ wd = .int .i64 k ∧ t = .int .i64 T ∧ T = 1048576 / 10 ^ k) (fun _ t => (intOf t).toNat)
  case atStart => exact ⟨0, 1048576, by omega, rfl, rfl, rfl⟩
  case round =>
    obtain ⟨k, T, hk, rfl, rfl, hT⟩ := hrel
    have HT : Hid (T = 1048576 / 10 ^ k) := hT
    clear hT
    by_cases h7 : k = 7
    · have hT0 : T = 0 := by rw [HT.out, h7]
      subst hT0 h7
      clear HT hk
      go_wp2
      go_loop [6] (fun i => ∃ k : Nat, k ≤ s.size ∧ i = .int .i64 k ∧ ∀ j, j < k → ∀ h : j < s.size, (s[j]'h).toNat = 48) (fun i => s.size - (intOf i).toNat)
      case atStart => exact ⟨0, Nat.zero_le _, rfl, by omega⟩
      case round =>
        obtain ⟨k, hk, rfl, hz⟩ := hrel
        have HZ : Hid (∀ j, j < k → ∀ h : j < s.size, (s[j]'h).toNat = 48) := hz
        clear hz
        by_cases hgo : ∃ h : k < s.size, (s[k]'h).toNat = 48
        · obtain ⟨hlt, h48⟩ := hgo
          have H48 : Hid ((s[k]'hlt).toNat = 48) := h48
          have t4 : (((s[k]'hlt).toNat : Int) == 48) = true := by rw [beq_iff_eq]; omega
          clear h48
          go_wp2
          go_round
          case rel =>
            refine ⟨k + 1, by omega, by go_num, fun j hj h => ?_⟩
            by_cases e : j = k
            · subst e; exact H48.out
            · exact HZ.out j (by omega) h
          case measure => simp [intOf]; omega
        · obtain ⟨r, er⟩ : ∃ r, r = s.extract k s.size := ⟨_, rfl⟩
          have rl : r.data.toList = s.data.toList.drop k := by rw [er]; exact extract_toList s k
          have rs : r.size = s.size - k := by rw [er]; simp
          have RD : Hid (∀ m (h : m < r.size), 48 ≤ (r[m]'h).toNat ∧ (r[m]'h).toNat ≤ 57) := by
            have : allDig r = true := by
              unfold allDig
              rw [rl, List.all_eq_true]
              intro c hc
              have h := HD.out
              unfold allDig at h
              rw [List.all_eq_true] at h
              exact h c (List.mem_of_mem_drop hc)
            exact fun m h => dig_at this m h
          have SM : Hid (dsz s.data.toList 0 = if r.size ≤ 7 then (if valFrom 0 r.data.toList ≤ 1048576 then valFrom 0 r.data.toList else 1048577) else 1048577) := by
            have h := size_model s.data.toList r.data.toList (by
              rw [rl]
              refine val_drop s.data.toList k (fun j hj h => ?_)
              exact HZ.out j hj (by simpa using h)) (fun c m hcm => by
              have hk : k < s.size := by
                rcases Nat.lt_or_ge k s.size with h | h
                · exact h
                · rw [rl, List.drop_eq_nil_of_le (by simp; omega)] at hcm; cases hcm
              rw [rl, drop_cons s k hk] at hcm
              have hd := dig_at HD.out k hk
              injection hcm with hc _
              rw [← hc]
              have : (s[k]'hk).toNat ≠ 48 := fun h => hgo ⟨hk, h⟩
              omega)
            have e : r.data.toList.length = r.size := by rw [Array.length_toList]; rfl
            rw [e] at h
            exact h
          have hcase : (∃ hlt : k < s.size, (((s[k]'hlt).toNat : Int) == 48) = false) ∨ ¬ k < s.size := by
            by_cases hlt : k < s.size
            · left
              refine ⟨hlt, ?_⟩
              rw [beq_eq_false_iff_ne]
              intro h
              exact hgo ⟨hlt, by omega⟩
            · exact .inr hlt
          have ER : Hid (r = s.extract k s.size) := er
          clear hgo rl er
          rcases hcase with ⟨hlt, t4⟩ | hlt
          all_goals
            by_cases h7 : s.size - k ≤ 7
            · have t5 : ((s.size - k : Nat) : Int) ≤ 7 := by omega
              have rs7 : r.size ≤ 7 := by omega
              go_wp2
              rw [← ER.out]
              clear t5 h7 ER
              go_loop [9, 10] (fun v i => ∃ m V : Nat, m ≤ r.size ∧ i = .int .i64 m ∧ v = .int .i64 V ∧ V = valFrom 0 (r.data.toList.take m) ∧ V ≤ 9999999) (fun _ i => r.size - (intOf i).toNat)
              case atStart => exact ⟨0, 0, Nat.zero_le _, rfl, rfl, rfl, by omega⟩
              case round =>
                obtain ⟨m, V, hm, rfl, rfl, hV, hVb⟩ := hrel
                have HV : Hid (V = valFrom 0 (r.data.toList.take m)) := hV
                clear hV
                by_cases hmr : m < r.size
                · have hks : k < s.size := by omega
                  first
                  | exact absurd hks hlt
                  | have hdg := RD.out m hmr
                    obtain ⟨c, ec⟩ : ∃ c, c = (r[m]'hmr).toNat := ⟨_, rfl⟩
                    rw [← ec] at hdg
                    have HN : Hid (V * 10 + (c - 48) = valFrom 0 (r.data.toList.take (m + 1)) ∧ V * 10 + (c - 48) ≤ 9999999) := val_next r m hmr V c HV.out ec (fun j h => (RD.out j h).2) rs7
                    have h48 : (48 : Int) ≤ ((r[m]'hmr).toNat : Int) := by omega
                    have h57 : ((r[m]'hmr).toNat : Int) ≤ 57 := by omega
                    have EC : Hid (c = (r[m]'hmr).toNat) := ec
                    clear ec
                    go_wp2
                    go_round
                    case rel =>
                      refine ⟨m + 1, V * 10 + (c - 48), by omega, by go_num, ?_, HN.out.1, HN.out.2⟩
                      have := EC.out
                      go_num
                    case measure => simp [intOf]; omega
                · have hmm : m = r.size := by omega
                  have hV : V = valFrom 0 r.data.toList := by
                    have e : r.data.toList.length = r.size := by rw [Array.length_toList]; rfl
                    have h := HV.out
                    rwa [List.take_of_length_le (by omega)] at h
                  have hz : dsz s.data.toList 0 = if V ≤ 1048576 then V else 1048577 := by
                    have h := SM.out
                    rw [if_pos (by omega), ← hV] at h
                    exact h
                  have HZ2 : Hid (dsz s.data.toList 0 = if V ≤ 1048576 then V else 1048577) := hz
                  clear hz hV
                  by_cases hVl : V ≤ 1048576
                  · have t6 : (V : Int) ≤ 1048576 := by omega
                    go_wp2_with fail
                    refine (ZZdigitsSize_any s _ HD.out).mono ?_
                    rintro e w1 ⟨rfl, hg⟩
                    have h := HZ2.out
                    rw [if_pos hVl] at h
                    rw [h]
                    clear h
                    go_wp2
                    go_ret
                    exact ⟨by simp, hg⟩
                  · have t6 : ¬ (V : Int) ≤ 1048576 := by omega
                    go_wp2_with fail
                    refine (ZZdigitsSize_any s _ HD.out).mono ?_
                    rintro e w1 ⟨rfl, hg⟩
                    have h := HZ2.out
                    rw [if_neg hVl] at h
                    rw [h]
                    clear h
                    go_wp2
                    go_ret
                    exact ⟨rfl, hg⟩
            · have t5 : ¬ ((s.size - k : Nat) : Int) ≤ 7 := by omega
              go_wp2_with fail
              refine (ZZdigitsSize_any s _ HD.out).mono ?_
              rintro e w1 ⟨rfl, hg⟩
              have hv : dsz s.data.toList 0 = 1048577 := by
                have h := SM.out
                rwa [if_neg (by omega)] at h
              rw [hv]
              go_wp2
              go_ret
              exact ⟨rfl, hg⟩
    · have hT0 : 0 < T := by
        rw [HT.out]
        exact Nat.div_pos (Nat.le_trans (Nat.pow_le_pow_right (by omega) (show k ≤ 6 by omega)) (by decide)) (Nat.pow_pos (by omega))
      have hTb : T ≤ 1048576 := by rw [HT.out]; exact Nat.div_le_self _ _
      have t2 : (0 : Int) < (T : Int) := by omega
      have t3 : (T : Int) ≤ 1048576 := by omega
      go_wp2
      go_round
      case rel =>
        refine ⟨k + 1, T / 10, by omega, by go_num, ?_, ?_⟩
        · go_num
        · rw [HT.out, Nat.div_div_eq_div_mul, Nat.pow_succ]
      case measure => simp [intOf]; omega

theorem law5 (s : ByteArray) (hs : s.size ≤ maxLen) (w : World) :
    Calls Trym.prog 5 #[.string s] w fun e w' => e = .returned (.bool true) ∧ Grown w w' := by
  by_cases h : s.size ≤ 1048576
  · cases hd : allDig s with
    | false =>
      have e1 : decide (s.size ≤ 1048576) = true := by simp; omega
      have t1 : ¬ (1048576 : Int) < (s.size : Int) := by omega
      have e2 := hd
      go_enter Trym.func5, Trym.ntmps5
      go_wp2_with fail
      refine (bytes15 s _ hs).mono ?_
      rintro e w' ⟨rfl, rfl⟩
      go_wp2_with fail
      refine (isDigits_any s _ hs).mono ?_
      rintro e w' ⟨rfl, rfl⟩
      go_wp2
      go_ret
      exact ⟨rfl, Grown.refl _⟩
    | true => exact law5_main s h hd w
  · have e1 : decide (s.size ≤ 1048576) = false := by simp; omega
    go_enter Trym.func5, Trym.ntmps5
    go_wp2_with fail
    refine (bytes15 s _ hs).mono ?_
    rintro e w' ⟨rfl, rfl⟩
    go_wp2
    go_ret
    exact ⟨rfl, Grown.refl _⟩
end Go.Proofs.Qxb6001748aMods
