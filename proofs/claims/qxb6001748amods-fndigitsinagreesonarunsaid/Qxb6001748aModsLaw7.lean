/-
  FnDigitsInAgreesOnARun: the walk.
-/
import Derived.Test.Qxb6001748aModsIn
namespace Go.Proofs.Qxb6001748aMods
open Go.RowKit (intOf Hid Grown)

theorem bytes19 (s : ByteArray) (w : World) (hs : s.size ≤ maxLen) :
    Calls Trym.prog 19 #[.string s] w fun e w' => e = .returned (.bool (decide (s.size ≤ 1048576))) ∧ w = w' := by
  unfold maxLen at hs
  by_cases h : s.size ≤ 1048576
  · have h1 : ¬ (1048576 : Int) < (s.size : Int) := by omega
    go_enter Trym.func19, Trym.ntmps19
    go_wp2
    go_ret
    exact ⟨by simp, rfl⟩
  · have h1 : (1048576 : Int) < (s.size : Int) := by omega
    go_enter Trym.func19, Trym.ntmps19
    go_wp2
    go_ret
    exact ⟨by simp [h], rfl⟩

theorem law7 (s : ByteArray) (hs : s.size ≤ maxLen) (w : World) :
    Calls Trym.prog 7 #[.string s] w fun e w' => e = .returned (.bool true) ∧ Grown w w' := by
  by_cases h : s.size ≤ 1048576
  · have e1 : decide (s.size ≤ 1048576) = true := by simp; omega
    have t1 : ¬ (1048576 : Int) < (s.size : Int) := by omega
    cases hd : allDig s with
    | false =>
      have e2 := hd
      go_enter Trym.func7, Trym.ntmps7
      go_wp2_with fail
      refine (bytes19 s _ hs).mono ?_
      rintro e w' ⟨rfl, rfl⟩
      go_wp2_with fail
      refine (isDigits_any s _ hs).mono ?_
      rintro e w' ⟨rfl, rfl⟩
      go_wp2
      go_ret
      exact ⟨rfl, Grown.refl _⟩
    | true =>
      have e2 := hd
      obtain ⟨v, ev⟩ : ∃ v, v = dsz s.data.toList 0 := ⟨_, rfl⟩
      have HD : Hid (allDig s = true) := hd
      go_enter Trym.func7, Trym.ntmps7
      go_wp2_with fail
      refine (bytes19 s _ hs).mono ?_
      rintro e w' ⟨rfl, rfl⟩
      go_wp2_with fail
      refine (isDigits_any s _ hs).mono ?_
      rintro e w' ⟨rfl, rfl⟩
      go_wp2_with fail
      refine (ZZdigitsIn_any s _ h HD.out).mono ?_
      rintro e w1 ⟨rfl, hg1⟩
      rw [← ev]
      go_wp2_with fail
      refine (ZZdigitsSize_any s _ HD.out).mono ?_
      rintro e w2 ⟨rfl, hg2⟩
      rw [← ev]
      go_wp2
      go_ret
      exact ⟨by simp, Grown.trans hg1 hg2⟩
  · have e1 : decide (s.size ≤ 1048576) = false := by simp; omega
    go_enter Trym.func7, Trym.ntmps7
    go_wp2_with fail
    refine (bytes19 s _ hs).mono ?_
    rintro e w' ⟨rfl, rfl⟩
    go_wp2
    go_ret
    exact ⟨rfl, Grown.refl _⟩
end Go.Proofs.Qxb6001748aMods
