/-
  ZZResidual: the walk.
-/
import Derived.Test.Qxb6001350aModsZRows
namespace Go.Proofs.Qxb6001350aMods
open Go.RowKit Fl
attribute [local go_sem] run_fadd run_fsub run_fmul run_fdiv alloc_drewN setCell_drewN run_store_float

theorem build46 (a b : Nat) (w : World) : (Instr.build 46 #[(0, .float .f64 a), (1, .float .f64 b)]).run Trym.prog w = .ok (.agg #[.float .f64 a, .float .f64 b]) w := run_build w 46 _ _ (by kernel_rfl)
attribute [local go_sem] build46

set_option maxHeartbeats 400000 in
theorem ZZResidual_any (c p gs gt n cs ct : Nat) (rows : List (Nat × Nat)) (w : World) (hl : rows.length = n) (hn : n ≤ 65536) (hgs : gs < w.heap.size) (hgt : gt < w.heap.size)
    (hs : ∀ i, i < n → w.cell? ⟨gs, i, none⟩ = some (.int .u64 (rows.getD i (0, 0)).1)) (ht : ∀ i, i < n → w.cell? ⟨gt, i, none⟩ = some (.float .f64 (rows.getD i (0, 0)).2)) :
    Calls Trym.prog 15 #[.float .f64 c, .float .f64 p, .slice (some ⟨gs, 0, none⟩) n cs, .slice (some ⟨gt, 0, none⟩) n ct] w fun e w' => ∃ r, e = .returned (.float .f64 r) ∧ Opt (residA (some c) (some p) rows) r ∧ Below w.heap.size w w' := by
  have H1 := zzRows_any gs gt n cs ct rows w hl hn hgs hgt hs ht
  have HL : Hid (rows.length = n) := hl
  clear hl hgs hgt hs ht
  go_enter Trym.func15, Trym.ntmps15
  go_wp2_with fail
  refine H1.mono ?_
  rintro e w1 ⟨rfl, hr, hbel⟩
  have H2 := residual_any c p w.heap.size n n (some c) (some p) rows w1 rfl rfl HL.out hn hr
  go_wp2_with fail
  refine H2.mono ?_
  rintro e w2 ⟨r, rfl, hv, hbel2⟩
  go_wp2
  go_ret
  exact ⟨_, rfl, hv, hbel.trans (hbel2.mono (by have := hbel.size; omega))⟩
end Go.Proofs.Qxb6001350aMods
