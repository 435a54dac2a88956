/-
  The walks that the three laws on runs of digits share: zzb1IsDigits, digitsSize, ZZdigitsSize.
-/
import Derived.Test.Qxb6001748aModsChecked
import Derived.WalkKit
import Derived.WalkLawsBesides
import Derived.RowKit3
namespace Go.Proofs.Qxb6001748aMods
open Go.RowKit (intOf Hid Grown)

/-! ### plain functions -/
def isDig (c : UInt8) : Bool := decide (48 ≤ c.toNat) && decide (c.toNat ≤ 57)
def allDig (s : ByteArray) : Bool := s.data.toList.all isDig
/-- digitsSize: the value of the run, but the cap plus one as soon as it passes the cap -/
def dsz : List UInt8 → Nat → Nat
  | [], n => n
  | c :: l, n => if 1048576 < n * 10 + (c.toNat - 48) then 1048577 else dsz l (n * 10 + (c.toNat - 48))

theorem dig_at {s : ByteArray} (h : allDig s = true) (k : Nat) (hk : k < s.size) : 48 ≤ (s[k]'hk).toNat ∧ (s[k]'hk).toNat ≤ 57 := by
  unfold allDig at h
  rw [List.all_eq_true] at h
  have hk' : k < s.data.toList.length := by simpa using hk
  have := h (s.data.toList[k]) (List.getElem_mem hk')
  simp [isDig] at this
  exact this

theorem drop_cons (s : ByteArray) (k : Nat) (hk : k < s.size) : s.data.toList.drop k = (s[k]'hk) :: s.data.toList.drop (k + 1) := by
  have hk' : k < s.data.toList.length := by simpa using hk
  rw [List.drop_eq_getElem_cons hk']
  rfl

/-! ### the world behind a range over a string -/
theorem Grown.iter {W w' : World} (h : Grown W w') (s : ByteArray) (pos : Nat) : Grown W (w'.iter s pos) := by
  refine ⟨World.keptBut_trans h.1 (World.keptBut_alloc _ _ _), fun a => ?_, Nat.le_trans h.2.2 (by show w'.heap.size ≤ (w'.heap.push _).size; simp)⟩
  rw [← h.2.1 a]
  by_cases e : a.block = w'.heap.size
  · have e1 : (w'.iter s pos).heap[a.block]? = some (.stringIter s pos) := by rw [e]; exact World.iter_heap w' s pos
    have e2 : w'.heap[a.block]? = none := by rw [e]; simp
    simp [World.frozen?, e1, e2]
  · exact World.frozen?_alloc_old _ _ _ e
theorem Grown.trans {a b c : World} (h : Grown a b) (k : Grown b c) : Grown a c :=
  ⟨World.keptBut_trans h.1 k.1, fun x => (k.2.1 x).trans (h.2.1 x), Nat.le_trans h.2.2 k.2.2⟩

/-! ### zzb1IsDigits -/
theorem not_dig {s : ByteArray} (k : Nat) (hk : k < s.size) (h : (s[k]'hk).toNat < 48 ∨ 57 < (s[k]'hk).toNat) : allDig s = false := by
  cases e : allDig s with
  | false => rfl
  | true => have := dig_at e k hk; omega

theorem all_dig {s : ByteArray} (h : ∀ j, j < s.size → ∀ hj : j < s.size, 48 ≤ (s[j]'hj).toNat ∧ (s[j]'hj).toNat ≤ 57) : allDig s = true := by
  unfold allDig
  rw [List.all_eq_true]
  intro c hc
  obtain ⟨i, hi, rfl⟩ := List.getElem_of_mem hc
  have hi' : i < s.size := by simpa using hi
  have := h i hi' hi'
  simp [isDig]
  exact this

set_option maxHeartbeats 400000 in
theorem isDigits_any (s : ByteArray) (w : World) (hs : s.size ≤ maxLen) :
    Calls Trym.prog 16 #[.string s] w fun e w' => e = .returned (.bool (allDig s)) ∧ w = w' := by
  unfold maxLen at hs
  go_enter Trym.func16, Trym.ntmps16
  go_wp2
  go_loop [3] (fun i => ∃ k : Nat, k ≤ s.size ∧ i = .int .i64 k ∧ ∀ j, j < k → ∀ hj : j < s.size, 48 ≤ (s[j]'hj).toNat ∧ (s[j]'hj).toNat ≤ 57) (fun i => s.size - (intOf i).toNat)
  case atStart => exact ⟨0, Nat.zero_le _, rfl, by omega⟩
  case round =>
    obtain ⟨k, hk, rfl, hall⟩ := hrel
    have HA : Hid (∀ j, j < k → ∀ hj : j < s.size, 48 ≤ (s[j]'hj).toNat ∧ (s[j]'hj).toNat ≤ 57) := hall
    clear hall
    by_cases hlt : k < s.size
    · go_wp2
      · go_ret
        exact ⟨by rw [not_dig k hlt (by omega)]; rfl, rfl⟩
      · go_round
        case rel =>
          refine ⟨k + 1, by omega, by go_num, fun j hj hj' => ?_⟩
          by_cases e : j = k
          · subst e; omega
          · exact HA.out j (by omega) hj'
        case measure => simp [intOf]; omega
      · go_ret
        exact ⟨by rw [not_dig k hlt (by omega)]; rfl, rfl⟩
    · go_wp2
      go_ret
      exact ⟨by rw [all_dig (fun j hj hj' => HA.out j (by omega) hj')]; rfl, rfl⟩

/-! ### digitsSize -/
set_option maxRecDepth 100000 in
set_option maxHeartbeats 400000 in
theorem digitsSize_any (s : ByteArray) (w : World) (hd : allDig s = true) :
    Calls Trym.prog 23 #[.string s] w fun e w' => e = .returned (.int .i64 (dsz s.data.toList 0)) ∧ Grown w w' := by
  have HD : Hid (allDig s = true) := hd
  clear hd
  go_enter Trym.func23, Trym.ntmps23
  go_wp2
  go_loopw [3] (fun n w' => ∃ pos v : Nat, w' = w.iter s pos ∧ pos ≤ s.size ∧ n = .int .i64 v ∧ v ≤ 1048576 ∧ dsz (s.data.toList.drop pos) v = dsz s.data.toList 0) (fun _ w' => s.size - w'.iterPos w.heap.size)
  case atStart => exact ⟨0, 0, rfl, Nat.zero_le _, rfl, by omega, rfl⟩
  case round =>
    obtain ⟨pos, v, rfl, hpos, rfl, hv, hz⟩ := hrel
    have HZ : Hid (dsz (s.data.toList.drop pos) v = dsz s.data.toList 0) := hz
    clear hz
    by_cases hp : pos < s.size
    · have hdg := dig_at HD.out pos hp
      have hnx : ∀ ty, (Instr.next (.pointer (some ⟨w.heap.size, 0, none⟩)) true ty).run Trym.prog (w.iter s pos) = _ := fun ty => run_next_ascii w s pos ty hp (by omega)
      obtain ⟨c, ec⟩ : ∃ c : Nat, c = (s[pos]'hp).toNat := ⟨_, rfl⟩
      rw [← ec] at hdg
      simp only [← ec] at hnx
      have hcons := drop_cons s pos hp
      have HZ2 : Hid (dsz s.data.toList 0 = if 1048576 < v * 10 + (c - 48) then 1048577 else dsz (s.data.toList.drop (pos + 1)) (v * 10 + (c - 48))) := by
        have h := HZ.out
        rw [hcons] at h
        rw [← h, dsz, ec]
        exact rfl
      clear hcons ec
      go_wp2
      · go_ret
        have h := HZ2.out
        rw [if_pos (by omega)] at h
        refine ⟨by rw [h]; rfl, ?_⟩
        exact Grown.iter (Grown.refl _) _ _
      · go_roundw
        case rel =>
          have h := HZ2.out
          rw [if_neg (by omega)] at h
          exact ⟨pos + 1, v * 10 + (c - 48), rfl, by omega, by go_num, by omega, h.symm⟩
        case measure => simp; omega
    · have hnx : ∀ ty, (Instr.next (.pointer (some ⟨w.heap.size, 0, none⟩)) true ty).run Trym.prog (w.iter s pos) = _ := fun ty => run_next_end w s pos ty hp
      go_wp2
      go_ret
      have h := HZ.out
      rw [List.drop_eq_nil_of_le (by simp; omega), dsz] at h
      refine ⟨by rw [← h]; rfl, ?_⟩
      exact Grown.iter (Grown.refl _) _ _

theorem ZZdigitsSize_any (s : ByteArray) (w : World) (hd : allDig s = true) :
    Calls Trym.prog 17 #[.string s] w fun e w' => e = .returned (.int .i64 (dsz s.data.toList 0)) ∧ Grown w w' := by
  have H := digitsSize_any s w hd
  clear hd
  go_enter Trym.func17, Trym.ntmps17
  go_wp2_with fail
  refine H.mono ?_
  rintro e w' ⟨rfl, hb⟩
  go_wp2
  go_ret
  exact ⟨rfl, hb⟩
end Go.Proofs.Qxb6001748aMods
