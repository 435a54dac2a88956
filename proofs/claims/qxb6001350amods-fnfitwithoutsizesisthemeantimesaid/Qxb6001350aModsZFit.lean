/-
  ZZFit: the walk.
-/
import Derived.Test.Qxb6001350aModsFit
import Derived.Deep.QuietTactic
import Derived.BigQuiet
namespace Go.Proofs.Qxb6001350aMods
open Go.RowKit Fl
attribute [local go_sem] run_fadd run_fsub run_fmul run_fdiv alloc_drewN setCell_drewN run_store_float build46

set_option maxHeartbeats 400000 in
theorem ZZFit_any (gs gt n cs ct : Nat) (rows : List (Nat × Nat)) (w : World) (hl : rows.length = n) (h0 : 0 < n) (hn : n ≤ 65536) (hgs : gs < w.heap.size) (hgt : gt < w.heap.size)
    (hs : ∀ i, i < n → w.cell? ⟨gs, i, none⟩ = some (.int .u64 (rows.getD i (0, 0)).1)) (ht : ∀ i, i < n → w.cell? ⟨gt, i, none⟩ = some (.float .f64 (rows.getD i (0, 0)).2))
    (cA pA : Option Nat) (hfit : FitsTo rows cA pA) :
    Calls Trym.prog 19 #[.slice (some ⟨gs, 0, none⟩) n cs, .slice (some ⟨gt, 0, none⟩) n ct] w fun e w' => ∃ c p, e = .returned (.tuple #[.float .f64 c, .float .f64 p]) ∧ Opt cA c ∧ Opt pA p ∧ Below w.heap.size w w' := by
  have H1 := zzRows_any gs gt n cs ct rows w hl hn hgs hgt hs ht
  have HL : Hid (rows.length = n) := hl
  have HF : Hid (FitsTo rows cA pA) := hfit
  clear hl hgs hgt hs ht hfit
  go_enter Trym.func19, Trym.ntmps19
  go_wp2_with fail
  refine H1.mono ?_
  rintro e w1 ⟨rfl, hr, hbel⟩
  have H2 := fit_any w.heap.size n n rows w1 HL.out h0 hn hr cA pA HF.out
  go_wp2_with fail
  refine H2.mono ?_
  rintro e w2 ⟨c, p, rfl, hc, hp, hbel2⟩
  have HC : Hid (Opt cA c) := hc
  have HP : Hid (Opt pA p) := hp
  clear hc hp H1 H2
  go_wp2
  go_quiet (fail)
  go_wp2
  go_ret2
  refine ⟨c, p, rfl, HC.out, HP.out, ?_⟩
  have := hbel.size
  have := hbel2.size
  exact below_drewN ((hbel.trans (hbel2.mono (by omega))).alloc (by omega) _) _
end Go.Proofs.Qxb6001350aMods
