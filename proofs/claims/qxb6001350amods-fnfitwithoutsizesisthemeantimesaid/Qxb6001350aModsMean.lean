/-
  mean, ZZMean: the walks.
-/
import Derived.Test.Qxb6001350aModsOps
import Derived.Test.Qxb6001350aModsChecked
namespace Go.Proofs.Qxb6001350aMods
open Go.RowKit Fl
attribute [local go_sem] run_fadd run_fsub run_fmul run_fdiv alloc_drewN setCell_drewN

set_option maxHeartbeats 400000 in
theorem mean_any (g n cap : Nat) (xs : List Nat) (w : World) (hl : xs.length = n) (hn : n ≤ maxLen)
    (hc : ∀ i, i < n → w.cell? ⟨g, i, none⟩ = some (.float .f64 (xs.getD i 0))) :
    Calls Trym.prog 22 #[.slice (some ⟨g, 0, none⟩) n cap] w fun e w' => ∃ r, e = .returned (.float .f64 r) ∧ Opt (meanA xs) r ∧ ∃ m, w' = w.drewN m := by
  unfold maxLen at hn
  have HL : Hid (xs.length = n) := hl
  clear hl
  go_enter Trym.func22, Trym.ntmps22
  go_wp2
  go_loopw [3, 8] (fun s i wr => ∃ k : Nat, k ≤ n ∧ i = .int .i64 k ∧ (∃ m, wr = w.drewN m) ∧ ∃ v, s = .float .f64 v ∧ Opt (sumA (xs.take k)) v) (fun _ i _ => n - (intOf i).toNat)
  case atStart => exact ⟨0, Nat.zero_le _, rfl, ⟨0, rfl⟩, 0, rfl, rfl⟩
  case round =>
    obtain ⟨k, hk, rfl, ⟨m, rfl⟩, v, rfl, hv⟩ := hrel
    have HV : Hid (Opt (sumA (xs.take k)) v) := hv
    clear hv
    by_cases hlt : k < n
    · have hck := hc k hlt
      go_wp2
      go_roundw
      case rel =>
        refine ⟨k + 1, by omega, by go_num, ⟨_, rfl⟩, _, rfl, ?_⟩
        rw [take_snoc xs k (by have := HL.out; omega), sumA_snoc]
        exact opt_add HV.out (opt_some _) _
      case measure => simp [intOf]; omega
    · go_wp2
      go_ret
      have e : xs.take k = xs := List.take_of_length_le (by have := HL.out; omega)
      have h := HV.out
      rw [e] at h
      refine ⟨_, rfl, ?_, _, rfl⟩
      unfold meanA
      rw [HL.out]
      exact opt_div h (opt_some _) _

theorem ZZMean_any (g n cap : Nat) (xs : List Nat) (w : World) (hl : xs.length = n) (hn : n ≤ maxLen)
    (hc : ∀ i, i < n → w.cell? ⟨g, i, none⟩ = some (.float .f64 (xs.getD i 0))) :
    Calls Trym.prog 12 #[.slice (some ⟨g, 0, none⟩) n cap] w fun e w' => ∃ r, e = .returned (.float .f64 r) ∧ Opt (meanA xs) r ∧ ∃ m, w' = w.drewN m := by
  have H := mean_any g n cap xs w hl hn hc
  clear hl hn hc
  go_enter Trym.func12, Trym.ntmps12
  go_wp2_with fail
  refine H.mono ?_
  rintro e w' ⟨r, rfl, hr, m, rfl⟩
  go_wp2
  go_ret
  exact ⟨_, rfl, hr, _, rfl⟩
end Go.Proofs.Qxb6001350aMods
