/-
  FnDigitsSizeAppendDigit: the walk.
-/
import Derived.Test.Qxb6001748aModsIn
namespace Go.Proofs.Qxb6001748aMods
open Go.RowKit (intOf Hid Grown)

theorem bytes18 (s : ByteArray) (d : Int) (w : World) (hs : s.size ≤ maxLen) :
    Calls Trym.prog 18 #[.string s, .int .u8 d] w fun e w' => e = .returned (.bool (decide (s.size ≤ 1048576))) ∧ w = w' := by
  unfold maxLen at hs
  by_cases h : s.size ≤ 1048576
  · have h1 : ¬ (1048576 : Int) < (s.size : Int) := by omega
    go_enter Trym.func18, Trym.ntmps18
    go_wp2
    go_ret
    exact ⟨by simp, rfl⟩
  · have h1 : (1048576 : Int) < (s.size : Int) := by omega
    go_enter Trym.func18, Trym.ntmps18
    go_wp2
    go_ret
    exact ⟨by simp [h], rfl⟩

theorem dsz_snoc (c : UInt8) : ∀ (l : List UInt8) (n : Nat), n ≤ 1048576 →
    dsz (l ++ [c]) n = if dsz l n ≤ 1048576 then (if 1048576 < dsz l n * 10 + (c.toNat - 48) then 1048577 else dsz l n * 10 + (c.toNat - 48)) else 1048577
  | [], n, h => by
    rw [List.nil_append, dsz, dsz, dsz, if_pos h]
  | a :: l, n, h => by
    rw [List.cons_append, dsz, dsz]
    by_cases h1 : 1048576 < n * 10 + (a.toNat - 48)
    · rw [if_pos h1, if_pos h1, if_neg (by omega)]
    · rw [if_neg h1, if_neg h1]
      exact dsz_snoc c l _ (by omega)

theorem conv_one (d : Nat) (w : World) : (convert 27 9 (.slice (some ⟨w.heap.size, 0, none⟩) 1 1)).run Trym.prog (w.alloc (.cells #[.int .u8 d] 5)) = .ok (.string (strOfNums [(d : Int)])) (w.alloc (.cells #[.int .u8 d] 5)) := by
  refine run_convert_bytes_arg _ 27 5 Trym.underlying27 Trym.underlying5 w.heap.size 0 1 1 [(d : Int)] rfl (fun i hi => ?_) 9 Trym.underlying9
  have : i = 0 := by omega
  subst this
  simp [go_sem]

set_option maxHeartbeats 400000 in
theorem law6_main (s : ByteArray) (d : Nat) (hs : s.size ≤ 1048576) (hd : allDig s = true) (h1 : 48 ≤ d) (h2 : d ≤ 57) (w : World) :
    Calls Trym.prog 6 #[.string s, .int .u8 d] w fun e w' => e = .returned (.bool true) ∧ Grown w w' := by
  have HM : Hid (s.size ≤ maxLen) := by unfold maxLen Hid; omega
  have e1 : decide (s.size ≤ 1048576) = true := by simp; omega
  have t1 : ¬ (1048576 : Int) < (s.size : Int) := by omega
  have t2 : ¬ (d : Int) < 48 := by omega
  have t3 : ¬ (57 : Int) < (d : Int) := by omega
  have hcv0 := conv_one d
  obtain ⟨T, eT⟩ : ∃ T, T = strOfNums [(d : Int)] := ⟨_, rfl⟩
  have hcv : ∀ w : World, (convert 27 9 (.slice (some ⟨w.heap.size, 0, none⟩) 1 1)).run Trym.prog (w.alloc (.cells #[.int .u8 d] 5)) = .ok (.string T) (w.alloc (.cells #[.int .u8 d] 5)) := by rw [eT]; exact hcv0
  clear hcv0
  have hT : T.data.toList = [UInt8.ofNat d] := by rw [eT]; rfl
  have hTs : T.size = 1 := by rw [eT]; rfl
  have hadd := fun w => run_string_add_sum (P := Trym.prog) (w := w) s T (by omega)
  have hu : (UInt8.ofNat d).toNat = d := by simp; omega
  have hcat : (s ++ T).data.toList = s.data.toList ++ [UInt8.ofNat d] := by rw [← hT]; simp
  have HD2 : Hid (allDig (s ++ T) = true) := by
    unfold Hid allDig
    rw [hcat, List.all_append]
    unfold allDig at hd
    rw [hd]
    simp [isDig]
    omega
  have hsn := dsz_snoc (UInt8.ofNat d) s.data.toList 0 (by omega)
  rw [hu, ← hcat] at hsn
  have hle := dsz_le s.data.toList 0 (by omega)
  obtain ⟨a, ea⟩ : ∃ a, a = dsz s.data.toList 0 := ⟨_, rfl⟩
  obtain ⟨b, eb⟩ : ∃ b, b = dsz (s ++ T).data.toList 0 := ⟨_, rfl⟩
  rw [← ea] at hsn hle
  rw [← eb] at hsn
  have HB : Hid (b = if a ≤ 1048576 then (if 1048576 < a * 10 + (d - 48) then 1048577 else a * 10 + (d - 48)) else 1048577) := hsn
  have HA : Hid (a = dsz s.data.toList 0) := ea
  have HC : Hid (b = dsz (s ++ T).data.toList 0) := eb
  have e2 := hd
  have HD : Hid (allDig s = true) := hd
  clear hsn ea eb hcat hu hT eT hd hTs
  go_enter Trym.func6, Trym.ntmps6
  go_wp2_with fail
  refine (bytes18 s d _ HM.out).mono ?_
  rintro e w' ⟨rfl, rfl⟩
  go_wp2_with fail
  refine (isDigits_any s _ HM.out).mono ?_
  rintro e w' ⟨rfl, rfl⟩
  go_wp2_with fail
  refine (ZZdigitsSize_any s _ HD.out).mono ?_
  rintro e w1 ⟨rfl, hg1⟩
  rw [← HA.out]
  go_wp2_with fail
  refine (ZZdigitsSize_any (s ++ T) _ HD2.out).mono ?_
  rintro e w2 ⟨rfl, hg2⟩
  rw [← HC.out]
  have hg : Grown w w2 := Grown.trans (Go.RowKit.Grown.alloc hg1 _ _) hg2
  have HG : Hid (Grown w w2) := hg
  clear hg hg1 hg2
  have hb := HB.out
  have b2 : ¬ (1048577 : Int) < (b : Int) := by split at hb <;> (try split at hb) <;> omega
  have b1 : ¬ (b : Int) < (a : Int) := by split at hb <;> (try split at hb) <;> omega
  have b0 : ¬ (a : Int) < 0 := by omega
  by_cases ha : a ≤ 1048576
  · rw [if_pos ha] at hb
    have t4 : (a : Int) ≤ 1048576 := by omega
    by_cases hw : 1048576 < a * 10 + (d - 48)
    · rw [if_pos hw] at hb
      have t5 : (1048576 : Int) < (a : Int) * 10 + ((d : Int) - 48) := by omega
      clear hw
      subst hb
      go_wp2
      go_ret
      exact ⟨by simp, HG.out⟩
    · rw [if_neg hw] at hb
      have t5 : ¬ (1048576 : Int) < (a : Int) * 10 + ((d : Int) - 48) := by omega
      have t6 : ((b : Int) == (a : Int) * 10 + ((d : Int) - 48)) = true := by rw [beq_iff_eq]; omega
      clear hw hb
      go_wp2
      go_ret
      exact ⟨rfl, HG.out⟩
  · have t4 : ¬ (a : Int) ≤ 1048576 := by omega
    clear hb
    go_wp2
    go_ret
    exact ⟨rfl, HG.out⟩

theorem wf_u8 {n : Int} (h : (Lit.int .u8 n).wf = true) : 0 ≤ n ∧ n ≤ 255 := by
  simp [Lit.wf, IntKind.min, IntKind.max, IntKind.signed, IntKind.bits] at h
  omega

theorem law6 (s : ByteArray) (d : Int) (hs : s.size ≤ maxLen) (w1 : (Lit.int .u8 d).wf = true) (w : World) :
    Calls Trym.prog 6 #[.string s, .int .u8 d] w fun e w' => e = .returned (.bool true) ∧ Grown w w' := by
  by_cases h : s.size ≤ 1048576
  · have e1 : decide (s.size ≤ 1048576) = true := by simp; omega
    have t1 : ¬ (1048576 : Int) < (s.size : Int) := by omega
    cases hd : allDig s with
    | false =>
      have e2 := hd
      go_enter Trym.func6, Trym.ntmps6
      go_wp2_with fail
      refine (bytes18 s d _ hs).mono ?_
      rintro e w' ⟨rfl, rfl⟩
      go_wp2_with fail
      refine (isDigits_any s _ hs).mono ?_
      rintro e w' ⟨rfl, rfl⟩
      go_wp2
      go_ret
      exact ⟨rfl, Grown.refl _⟩
    | true =>
      by_cases h1 : d < 48
      · have e2 := hd
        go_enter Trym.func6, Trym.ntmps6
        go_wp2_with fail
        refine (bytes18 s d _ hs).mono ?_
        rintro e w' ⟨rfl, rfl⟩
        go_wp2_with fail
        refine (isDigits_any s _ hs).mono ?_
        rintro e w' ⟨rfl, rfl⟩
        go_wp2
        go_ret
        exact ⟨rfl, Grown.refl _⟩
      · by_cases h2 : 57 < d
        · have e2 := hd
          go_enter Trym.func6, Trym.ntmps6
          go_wp2_with fail
          refine (bytes18 s d _ hs).mono ?_
          rintro e w' ⟨rfl, rfl⟩
          go_wp2_with fail
          refine (isDigits_any s _ hs).mono ?_
          rintro e w' ⟨rfl, rfl⟩
          go_wp2
          go_ret
          exact ⟨rfl, Grown.refl _⟩
        · have b := wf_u8 w1
          obtain ⟨k, rfl⟩ := Int.eq_ofNat_of_zero_le b.1
          exact law6_main s k h hd (by omega) (by omega) w
  · have e1 : decide (s.size ≤ 1048576) = false := by simp; omega
    go_enter Trym.func6, Trym.ntmps6
    go_wp2_with fail
    refine (bytes18 s d _ hs).mono ?_
    rintro e w' ⟨rfl, rfl⟩
    go_wp2
    go_ret
    exact ⟨rfl, Grown.refl _⟩
end Go.Proofs.Qxb6001748aMods
