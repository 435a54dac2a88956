/-
  zzRows: the walk.
-/
import Derived.Test.Qxb6001350aModsResid
namespace Go.Proofs.Qxb6001350aMods
open Go.RowKit Fl
attribute [local go_sem] run_fadd run_fsub run_fmul run_fdiv alloc_drewN setCell_drewN run_store_float

theorem info51 : (Trym.prog.info? 51).map (fun i => (i.zero, i.size, i.bytes)) = some (some (.agg #[.int .u64 0, .float .f64 0]), 2, 16) := by kernel_rfl

theorem make_rows (n : Nat) (hn : n ≤ 65536) (w : World) :
    (Instr.makeSlice 47 (.int .i64 (n : Int)) (.int .i64 (n : Int))).run Trym.prog w = .ok (.slice (some ⟨w.heap.size, 0, none⟩) n n) (w.alloc (.cells (madeCells #[.int .u64 0, .float .f64 0] (n * 2)) 51)) := by
  obtain ⟨i, hi, hz, hs, hb⟩ := info_parts info51
  have h := run_make (P := Trym.prog) w 47 51 i _ Trym.underlying47 hi hz .i64 .i64 n n (by omega) (Int.le_refl _) (by rw [hb]; omega) (by omega)
  rw [Int.toNat_natCast, hs] at h
  exact h

/-- what the rows' block holds behind k rounds -/
def rowCell (rows : List (Nat × Nat)) (k j : Nat) : Value :=
  if j % 2 = 0 then .int .u64 (if j / 2 < k then (rows.getD (j / 2) (0, 0)).1 else 0 : Nat) else .float .f64 (if j / 2 < k then (rows.getD (j / 2) (0, 0)).2 else 0)

theorem rowIs_rows (w : World) (n : Nat) (rows : List (Nat × Nat)) : (w.alloc (.cells (madeCells #[.int .u64 0, .float .f64 0] (n * 2)) 51)).rowIs w.heap.size 51 (n * 2) (rowCell rows 0) := by
  have h := World.rowIs_alloc w (madeCells #[.int .u64 0, .float .f64 0] (n * 2)) 51 (rowCell rows 0)
  rw [size_madeCells] at h
  refine h fun i hi => ?_
  unfold rowCell madeCells
  by_cases h : i % 2 = 0
  · simp [hi, h]
  · have h' : i % 2 = 1 := by omega
    simp [hi, h']

theorem rowIs_step {w : World} {B n k : Nat} {rows : List (Nat × Nat)} (h : w.rowIs B 51 (n * 2) (rowCell rows k)) (s t : Nat) (hs : s = (rows.getD k (0, 0)).1) (ht : t = (rows.getD k (0, 0)).2) :
    ((w.setCell ⟨B, k * 2, none⟩ (.int .u64 s)).setCell ⟨B, k * 2 + 1, none⟩ (.float .f64 t)).rowIs B 51 (n * 2) (rowCell rows (k + 1)) := by
  refine ((h.set (k * 2) _).set (k * 2 + 1) _).congr fun j _ => ?_
  subst hs ht
  unfold rowCell
  by_cases h1 : j = k * 2 + 1
  · subst h1
    have e1 : (k * 2 + 1) % 2 = 1 := by omega
    have e2 : (k * 2 + 1) / 2 = k := by omega
    simp [e1, e2]
  · by_cases h2 : j = k * 2
    · subst h2
      have e1 : (k * 2) % 2 = 0 := by omega
      have e2 : (k * 2) / 2 = k := by omega
      simp [e2]
    · rw [if_neg h1, if_neg h2]
      by_cases h3 : j / 2 < k
      · have h4 : j / 2 < k + 1 := by omega
        simp [h3, h4]
      · have h4 : ¬ j / 2 < k + 1 := by omega
        simp [h3, h4]

set_option maxHeartbeats 400000 in
theorem zzRows_any (gs gt n cs ct : Nat) (rows : List (Nat × Nat)) (w : World) (hl : rows.length = n) (hn : n ≤ 65536) (hgs : gs < w.heap.size) (hgt : gt < w.heap.size)
    (hs : ∀ i, i < n → w.cell? ⟨gs, i, none⟩ = some (.int .u64 (rows.getD i (0, 0)).1)) (ht : ∀ i, i < n → w.cell? ⟨gt, i, none⟩ = some (.float .f64 (rows.getD i (0, 0)).2)) :
    Calls Trym.prog 24 #[.slice (some ⟨gs, 0, none⟩) n cs, .slice (some ⟨gt, 0, none⟩) n ct] w fun e w' => e = .returned (.slice (some ⟨w.heap.size, 0, none⟩) n n) ∧ RowsAt w' w.heap.size rows ∧ Below w.heap.size w w' := by
  have HL : Hid (rows.length = n) := hl
  have HS : Hid (∀ i, i < n → w.cell? ⟨gs, i, none⟩ = some (.int .u64 (rows.getD i (0, 0)).1)) := hs
  have HT : Hid (∀ i, i < n → w.cell? ⟨gt, i, none⟩ = some (.float .f64 (rows.getD i (0, 0)).2)) := ht
  clear hl hs ht
  have hmk := fun w => make_rows n hn w
  have tn : ¬ (n : Int) < (n : Int) := by omega
  go_enter Trym.func24, Trym.ntmps24
  go_wp2
  go_loopw [7] (fun i wr => ∃ k : Nat, k ≤ n ∧ i = .int .i64 k ∧ Below w.heap.size w wr ∧ wr.rowIs w.heap.size 51 (n * 2) (rowCell rows k)) (fun i _ => n - (intOf i).toNat)
  case atStart => exact ⟨0, Nat.zero_le _, rfl, (Below.refl _ _).alloc (Nat.le_refl _) _, rowIs_rows _ _ _⟩
  case round =>
    obtain ⟨k, hk, rfl, hbel, hrow⟩ := hrel
    by_cases hlt : k < n
    · obtain ⟨sz, esz⟩ : ∃ x, x = (rows.getD k (0, 0)).1 := ⟨_, rfl⟩
      obtain ⟨tm, etm⟩ : ∃ x, x = (rows.getD k (0, 0)).2 := ⟨_, rfl⟩
      have hc0 : wr.cell? ⟨gs, k, none⟩ = some (.int .u64 sz) := by rw [esz, ← HS.out k hlt]; exact hbel.cell hgs
      have hc1 : wr.cell? ⟨gt, k, none⟩ = some (.float .f64 tm) := by rw [etm, ← HT.out k hlt]; exact hbel.cell hgt
      have ES : Hid (sz = (rows.getD k (0, 0)).1) := esz
      have ET : Hid (tm = (rows.getD k (0, 0)).2) := etm
      clear esz etm
      obtain ⟨o0, ho0⟩ : ∃ v, wr.cell? ⟨w.heap.size, k * 2, none⟩ = some v := ⟨_, hrow.cell (by omega)⟩
      obtain ⟨o1, ho1⟩ : ∃ v, wr.cell? ⟨w.heap.size, k * 2 + 1, none⟩ = some v := ⟨_, hrow.cell (by omega)⟩
      have hf0 : wr.frozen? ⟨w.heap.size, k * 2, none⟩ = false := hrow.frozen _
      have hf1 : wr.frozen? ⟨w.heap.size, k * 2 + 1, none⟩ = false := hrow.frozen _
      go_wp2
      go_region
      go_wp2
      go_roundw
      case rel =>
        refine ⟨k + 1, by omega, by go_num, ?_, ?_⟩
        · exact ((hbel.setCell (Nat.le_refl _) _).setCell (Nat.le_refl _) _).drew
        · exact rowIs_step hrow sz tm ES.out ET.out
      case measure => simp [intOf]; omega
    · go_wp2
      go_ret
      have hkn : k = n := by omega
      subst hkn
      refine ⟨rfl, ⟨hrow.lt, fun i hi => ?_⟩, hbel⟩
      have := HL.out
      have e1 : i * 2 % 2 = 0 := by omega
      have e2 : i * 2 / 2 = i := by omega
      have e3 : (i * 2 + 1) % 2 = 1 := by omega
      have e4 : (i * 2 + 1) / 2 = i := by omega
      have h1 := hrow.cell (i := i * 2) (by omega)
      have h2 := hrow.cell (i := i * 2 + 1) (by omega)
      rw [h1, h2]
      unfold rowCell
      rw [if_pos e1, e2, if_pos (by omega), if_neg (by omega), e4, if_pos (by omega)]
      exact ⟨rfl, rfl⟩
end Go.Proofs.Qxb6001350aMods
