/-
  digitsEnd, digitsIn, ZZdigitsIn at a run of digits: the walks.
-/
import Derived.Test.Qxb6001748aModsDigits
namespace Go.Proofs.Qxb6001748aMods
open Go.RowKit (intOf Hid Grown)

theorem dsz_le : ∀ (l : List UInt8) (n : Nat), n ≤ 1048577 → dsz l n ≤ 1048577
  | [], n, h => h
  | c :: l, n, h => by
    rw [dsz]
    split
    · exact Nat.le_refl _
    · exact dsz_le l _ (by omega)

set_option maxHeartbeats 400000 in
theorem digitsEnd_any (s : ByteArray) (i : Nat) (w : World) (hs : s.size ≤ maxLen) (hd : allDig s = true) (hi : i ≤ s.size) :
    Calls Trym.prog 27 #[.string s, .int .i64 i] w fun e w' => e = .returned (.int .i64 s.size) ∧ w = w' := by
  unfold maxLen at hs
  have HD : Hid (allDig s = true) := hd
  clear hd
  go_enter Trym.func27, Trym.ntmps27
  go_wp2
  go_loop [5] (fun j => ∃ k : Nat, k ≤ s.size ∧ j = .int .i64 k) (fun j => s.size - (intOf j).toNat)
  case atStart => exact ⟨i, hi, rfl⟩
  case round =>
    obtain ⟨k, hk, rfl⟩ := hrel
    by_cases hlt : k < s.size
    · have hdg := dig_at HD.out k hlt
      have h1 : (48 : Int) ≤ ((s[k]'hlt).toNat : Int) := by omega
      have h2 : ((s[k]'hlt).toNat : Int) ≤ 57 := by omega
      clear hdg
      go_wp2
      go_round
      case rel => exact ⟨k + 1, by omega, by go_num⟩
      case measure => simp [intOf]; omega
    · go_wp2
      go_ret
      have hks : k = s.size := by omega
      subst hks
      exact ⟨rfl, rfl⟩

theorem digitsEnd_zero (s : ByteArray) (w : World) (hs : s.size ≤ maxLen) (hd : allDig s = true) :
    Calls Trym.prog 27 #[.string s, .int .i64 0] w fun e w' => e = .returned (.int .i64 s.size) ∧ w = w' := by
  have h := digitsEnd_any s 0 w hs hd (Nat.zero_le _)
  rw [show ((0 : Nat) : Int) = 0 from rfl] at h
  exact h

set_option maxHeartbeats 400000 in
theorem digitsIn_any (s : ByteArray) (w : World) (hs : s.size ≤ 1048576) (hd : allDig s = true) :
    Calls Trym.prog 24 #[.string s] w fun e w' => e = .returned (.int .i64 (dsz s.data.toList 0)) ∧ Grown w w' := by
  have HS : Hid (s.size ≤ maxLen) := by unfold maxLen Hid; omega
  have HD : Hid (allDig s = true) := hd
  clear hd
  have hle := dsz_le s.data.toList 0 (by omega)
  obtain ⟨v, ev⟩ : ∃ v, v = dsz s.data.toList 0 := ⟨_, rfl⟩
  have HV : Hid (v = dsz s.data.toList 0) := ev
  rw [← ev] at hle ⊢
  clear ev
  go_enter Trym.func24, Trym.ntmps24
  go_wp2
  go_loopw [3, 4] (fun n i wr => (n = .int .i64 0 ∧ i = .int .i64 0 ∧ wr = w) ∨ (n = .int .i64 v ∧ i = .int .i64 (s.size + 1 : Nat) ∧ Grown w wr)) (fun _ i _ => s.size + 1 - (intOf i).toNat)
  case atStart => exact .inl ⟨rfl, rfl, rfl⟩
  case round =>
    rcases hrel with ⟨rfl, rfl, rfl⟩ | ⟨rfl, rfl, hg⟩
    · by_cases h0 : 0 < s.size
      · have t0 : (0 : Int) < (s.size : Int) := by omega
        go_wp2_with fail
        refine (digitsEnd_zero s _ HS.out HD.out).mono ?_
        rintro e w' ⟨rfl, rfl⟩
        go_wp2_with fail
        refine (digitsSize_any s _ HD.out).mono ?_
        rintro e w1 ⟨rfl, hg⟩
        rw [← HV.out]
        go_wp2
        go_roundw
        case rel => exact .inr ⟨by go_num, by go_num, hg⟩
        case measure => simp [intOf]
      · go_wp2
        go_ret
        have hz : s.data.toList = [] := by
          have e : s.data.toList.length = s.size := by rw [Array.length_toList]; rfl
          have : s.data.toList.length = 0 := by omega
          exact List.eq_nil_of_length_eq_zero this
        refine ⟨?_, Grown.refl _⟩
        rw [HV.out, hz, dsz]; rfl
    · go_wp2
      go_ret
      exact ⟨rfl, hg⟩

theorem ZZdigitsIn_any (s : ByteArray) (w : World) (hs : s.size ≤ 1048576) (hd : allDig s = true) :
    Calls Trym.prog 20 #[.string s] w fun e w' => e = .returned (.int .i64 (dsz s.data.toList 0)) ∧ Grown w w' := by
  have H := digitsIn_any s w hs hd
  clear hs hd
  go_enter Trym.func20, Trym.ntmps20
  go_wp2_with fail
  refine H.mono ?_
  rintro e w' ⟨rfl, hb⟩
  go_wp2
  go_ret
  exact ⟨rfl, hb⟩
end Go.Proofs.Qxb6001748aMods
