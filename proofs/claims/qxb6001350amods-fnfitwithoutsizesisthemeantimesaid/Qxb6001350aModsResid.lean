/-
  predict, residual, zzRows, ZZResidual: the walks.
-/
import Derived.Test.Qxb6001350aModsOps
import Derived.Test.Qxb6001350aModsChecked
import Derived.Deep.OwnRows
import Derived.Deep.RegionWith
namespace Go.Proofs.Qxb6001350aMods
open Go.RowKit Fl
attribute [local go_sem] run_fadd run_fsub run_fmul run_fdiv alloc_drewN setCell_drewN run_store_float

def predA (c p : Option Nat) (s : Nat) : Option Nat := addA c (mulA p (some (F s)))

set_option maxHeartbeats 400000 in
theorem predict_any (c p s : Nat) (cA pA : Option Nat) (w : World) (hc : Opt cA c) (hp : Opt pA p) :
    Calls Trym.prog 26 #[.agg #[.float .f64 c, .float .f64 p], .int .u64 s] w fun e w' => ∃ r m, e = .returned (.float .f64 r) ∧ Opt (predA cA pA s) r ∧ w' = (w.alloc (.cells #[.float .f64 c, .float .f64 p] 46)).drewN m := by
  have HC : Hid (Opt cA c) := hc
  have HP : Hid (Opt pA p) := hp
  clear hc hp
  go_enter Trym.func26, Trym.ntmps26
  go_wp2
  go_ret
  refine ⟨_, _, rfl, ?_, rfl⟩
  exact opt_add HC.out (opt_mul HP.out (opt_some _) _) _

/-- one round of residual -/
def resStep (c p : Option Nat) (a : Option Nat) (r : Nat × Nat) : Option Nat := addA a (mulA (subA (predA c p r.1) (some r.2)) (subA (predA c p r.1) (some r.2)))
def residA (c p : Option Nat) (rows : List (Nat × Nat)) : Option Nat := rows.foldl (resStep c p) (some 0)
theorem residA_snoc (c p : Option Nat) (rows : List (Nat × Nat)) (r : Nat × Nat) : residA c p (rows ++ [r]) = resStep c p (residA c p rows) r := by
  unfold residA; rw [List.foldl_append]; rfl
theorem take_snoc2 (xs : List (Nat × Nat)) (k : Nat) (h : k < xs.length) : xs.take (k + 1) = xs.take k ++ [xs.getD k (0, 0)] := by
  rw [List.take_succ_eq_append_getElem h]; simp [h]

/-- the rows lie in block g, two cells each -/
def RowsAt (w : World) (g : Nat) (rows : List (Nat × Nat)) : Prop :=
  g < w.heap.size ∧ ∀ i, i < rows.length → w.cell? ⟨g, i * 2, none⟩ = some (.int .u64 (rows.getD i (0, 0)).1) ∧ w.cell? ⟨g, i * 2 + 1, none⟩ = some (.float .f64 (rows.getD i (0, 0)).2)

set_option maxHeartbeats 400000 in
theorem residual_any (c p g n cap : Nat) (cA pA : Option Nat) (rows : List (Nat × Nat)) (w : World) (hc : Opt cA c) (hp : Opt pA p) (hl : rows.length = n) (hn : n ≤ 65536) (hr : RowsAt w g rows) :
    Calls Trym.prog 23 #[.agg #[.float .f64 c, .float .f64 p], .slice (some ⟨g, 0, none⟩) n cap] w fun e w' => ∃ r, e = .returned (.float .f64 r) ∧ Opt (residA cA pA rows) r ∧ Below w.heap.size w w' := by
  obtain ⟨hg, hrow⟩ := hr
  have HC : Hid (Opt cA c) := hc
  have HP : Hid (Opt pA p) := hp
  have HL : Hid (rows.length = n) := hl
  have HR : Hid (∀ i, i < n → w.cell? ⟨g, i * 2, none⟩ = some (.int .u64 (rows.getD i (0, 0)).1) ∧ w.cell? ⟨g, i * 2 + 1, none⟩ = some (.float .f64 (rows.getD i (0, 0)).2)) := by rw [← hl]; exact hrow
  clear hc hp hl hrow
  go_enter Trym.func23, Trym.ntmps23
  go_wp2
  go_loopw [5, 11] (fun s i wr => ∃ k : Nat, k ≤ n ∧ i = .int .i64 k ∧ Below (w.heap.size + 1) (w.alloc (.cells #[.float .f64 c, .float .f64 p] 46)) wr ∧ ∃ v, s = .float .f64 v ∧ Opt (residA cA pA (rows.take k)) v) (fun _ i _ => n - (intOf i).toNat)
  case atStart => exact ⟨0, Nat.zero_le _, rfl, Below.refl _ _, 0, rfl, rfl⟩
  case round =>
    obtain ⟨k, hk, rfl, hbel, v, rfl, hv⟩ := hrel
    have HV : Hid (Opt (residA cA pA (rows.take k)) v) := hv
    clear hv
    have hsz : w.heap.size < wr.heap.size := by have := hbel.size; simp at this; omega
    have hb0 : wr.cell? ⟨w.heap.size, 0, none⟩ = some (.float .f64 c) := (hbel.cell (by exact Nat.lt_succ_self _)).trans (by simp)
    have hb1 : wr.cell? ⟨w.heap.size, 1, none⟩ = some (.float .f64 p) := (hbel.cell (by exact Nat.lt_succ_self _)).trans (by simp)
    by_cases hlt : k < n
    · obtain ⟨sz, esz⟩ : ∃ x, x = (rows.getD k (0, 0)).1 := ⟨_, rfl⟩
      obtain ⟨tm, etm⟩ : ∃ x, x = (rows.getD k (0, 0)).2 := ⟨_, rfl⟩
      have hc0 : wr.cell? ⟨g, k * 2, none⟩ = some (.int .u64 sz) := by rw [esz, ← (HR.out k hlt).1]; exact (hbel.cell (by simp; omega)).trans (World.cell?_alloc_past _ _ _ hg)
      have hc1 : wr.cell? ⟨g, k * 2 + 1, none⟩ = some (.float .f64 tm) := by rw [etm, ← (HR.out k hlt).2]; exact (hbel.cell (by simp; omega)).trans (World.cell?_alloc_past _ _ _ hg)
      have ES : Hid (sz = (rows.getD k (0, 0)).1) := esz
      have ET : Hid (tm = (rows.getD k (0, 0)).2) := etm
      clear esz etm
      go_wp2
      go_region_with (go_at_call 26; refine (predict_any c p sz cA pA _ HC.out HP.out).mono ?_; rintro e w' ⟨r, m, rfl, hr, rfl⟩)
      all_goals
        go_wp2
        go_roundw
        case rel =>
          refine ⟨k + 1, by omega, by go_num, ?_, _, rfl, ?_⟩
          · exact below_drewN ((hbel.alloc (by omega) _).alloc (by simp; omega) _) _
          · rw [take_snoc2 rows k (by have := HL.out; omega), residA_snoc]
            unfold resStep
            rw [← ES.out, ← ET.out]
            exact opt_add HV.out (opt_mul (opt_sub hr (opt_some _) _) (opt_sub hr (opt_some _) _) _) _
        case measure => simp [intOf]; omega
    · go_wp2
      go_ret
      have e : rows.take k = rows := List.take_of_length_le (by have := HL.out; omega)
      have h := HV.out
      rw [e] at h
      refine ⟨_, rfl, h, ?_⟩
      exact ((Below.refl _ _).alloc (Nat.le_refl _) _).trans (hbel.mono (Nat.le_succ _))
end Go.Proofs.Qxb6001350aMods
