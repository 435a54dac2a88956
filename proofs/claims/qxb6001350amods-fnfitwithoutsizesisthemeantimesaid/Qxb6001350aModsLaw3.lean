/-
  FnMeanLiesBetweenLeastAndGreatest: the walk.
-/
import Derived.Test.Qxb6001350aModsMean
import Derived.Test.Qxb6001350aModsPlain1
import Derived.Deep.OwnRows
namespace Go.Proofs.Qxb6001350aMods
open Go.RowKit Fl
attribute [local go_sem] run_fadd run_fsub run_fmul run_fdiv alloc_drewN setCell_drewN run_store_float

theorem info25 : (Trym.prog.info? 25).map (fun i => (i.zero, i.size, i.bytes)) = some (some (.float .f64 0), 1, 8) := by kernel_rfl

theorem getD_map_take (zs : List Int) (k i : Nat) (hi : i < k) (hl : k ≤ zs.length) : ((zs.take k).map F).getD i 0 = F (zs.getD i 0) := by
  have h1 : i < zs.length := by omega
  simp [hi, h1]
theorem take_all (zs : List Int) (k : Nat) (hl : k ≤ zs.length) {l h : Int} (h1 : ∀ j, j < k → l ≤ zs.getD j 0 ∧ zs.getD j 0 ≤ h) : ∀ z ∈ zs.take k, l ≤ z ∧ z ≤ h := by
  intro z hz
  obtain ⟨i, hi, rfl⟩ := List.getElem_of_mem hz
  simp only [List.length_take] at hi
  have := h1 i (by omega)
  have h2 : i < zs.length := by omega
  simpa [h2] using this
theorem leq_true {o : Option Ordering} (h : o = some .lt ∨ o = some .eq) : (o == some Ordering.lt || o == some Ordering.eq) = true := by
  rcases h with rfl | rfl <;> rfl
theorem cell_lt {w : World} {a : Addr} {v : Value} (h : w.cell? a = some v) : a.block < w.heap.size := by
  rcases Nat.lt_or_ge a.block w.heap.size with h1 | h1
  · exact h1
  · simp [World.cell?, Array.getElem?_eq_none h1] at h
theorem addr_add (b off i : Nat) : (⟨b, off, none⟩ : Addr).add i = ⟨b, off + i, none⟩ := by
  unfold Addr.add
  split
  · subst i; rfl
  · rfl
theorem getD_mem (zs : List Int) (i : Nat) (h : i < zs.length) : zs.getD i 0 ∈ zs := by
  simp [h]
theorem wf_i32 {n : Int} (h : (Lit.int .i32 n).wf = true) : -2147483648 ≤ n ∧ n ≤ 2147483647 := by
  simp [Lit.wf, IntKind.min, IntKind.max, IntKind.signed, IntKind.bits] at h
  omega

theorem bytes11 (a : Option Addr) (n cap : Nat) (w : World) (hn : n ≤ maxLen) :
    Calls Trym.prog 11 #[.slice a n cap] w fun e w' => e = .returned (.bool (decide (n ≤ 1048576))) ∧ w = w' := by
  unfold maxLen at hn
  by_cases h : n ≤ 1048576
  · have h1 : ¬ (1048576 : Int) < (n : Int) := by omega
    go_enter Trym.func11, Trym.ntmps11
    go_wp2
    go_ret
    exact ⟨by simp, rfl⟩
  · have h1 : (1048576 : Int) < (n : Int) := by omega
    go_enter Trym.func11, Trym.ntmps11
    go_wp2
    go_ret
    exact ⟨by simp [h], rfl⟩

set_option maxHeartbeats 400000 in
theorem law3_main (b off n cap : Nat) (zs : List Int) (w : World) (hl : n ≤ zs.length) (h0 : 0 < n) (hn : n ≤ 65536)
    (hb : b < w.heap.size) (hc : ∀ i, i < n → w.cell? ⟨b, off + i, none⟩ = some (.int .i32 (zs.getD i 0)))
    (hz : ∀ i, i < n → -2147483648 ≤ zs.getD i 0 ∧ zs.getD i 0 ≤ 2147483647) :
    Calls Trym.prog 3 #[.slice (some ⟨b, off, none⟩) n cap] w fun e w' => e = .returned (.bool true) ∧ Below w.heap.size w w' := by
  have hmk := fun w => run_make_row' (P := Trym.prog) 24 25 (.float .f64 0) 8 Trym.underlying24 info25 rfl .i64 .i64 n (by omega) (by omega) w
  have e1 : decide (n ≤ 1048576) = true := by simp; omega
  have t1 : ¬ (65536 : Int) < (n : Int) := by omega
  have t2 : ((n : Int) == 0) = false := by simp; omega
  have t3 : (0 : Int) < (n : Int) := by omega
  have c0 : w.cell? ⟨b, off, none⟩ = some (.int .i32 (zs.getD 0 0)) := by simpa using hc 0 h0
  go_enter Trym.func3, Trym.ntmps3
  go_wp2_with fail
  refine (bytes11 (some ⟨b, off, none⟩) n cap _ (by unfold maxLen; omega)).mono ?_
  rintro e w' ⟨rfl, rfl⟩
  go_wp2
  go_loopw [4, 5, 29] (fun lo hi i wr => ∃ k : Nat, k ≤ n ∧ i = .int .i64 k ∧ ∃ l h : Int, lo = .int .i32 l ∧ hi = .int .i32 h ∧ (∀ j, j < k → l ≤ zs.getD j 0 ∧ zs.getD j 0 ≤ h) ∧
      (-2147483648 ≤ l ∧ l ≤ 2147483647 ∧ -2147483648 ≤ h ∧ h ≤ 2147483647) ∧ Below w.heap.size w wr ∧ wr.rowIs w.heap.size 25 n (fun j => .float .f64 (if j < k then F (zs.getD j 0) else 0)))
    (fun _ _ i _ => n - (intOf i).toNat)
  case atStart =>
    have z0 := hz 0 h0
    exact ⟨0, Nat.zero_le _, rfl, _, _, rfl, rfl, by omega, by simp at z0; omega, (Below.refl _ _).alloc (Nat.le_refl _) _, World.rowIs_made _ _ _ _⟩
  case round =>
    obtain ⟨k, hk, rfl, l, h, rfl, rfl, hlh, hbd, hbel, hrow⟩ := hrel
    have HLH : Hid (∀ j, j < k → l ≤ zs.getD j 0 ∧ zs.getD j 0 ≤ h) := hlh
    have HBD : Hid (-2147483648 ≤ l ∧ l ≤ 2147483647 ∧ -2147483648 ≤ h ∧ h ≤ 2147483647) := hbd
    clear hlh hbd
    by_cases hlt : k < n
    · obtain ⟨z, ez⟩ : ∃ z, z = zs.getD k 0 := ⟨_, rfl⟩
      have hck : wr.cell? ⟨b, off + k, none⟩ = some (.int .i32 z) := by rw [ez]; exact (hbel.cell (by exact hb)).trans (hc k hlt)
      have hzk : -2147483648 ≤ z ∧ z ≤ 2147483647 := by rw [ez]; exact hz k hlt
      have hst : wr.cell? ⟨w.heap.size, k, none⟩ = some (.float .f64 (if k < k then F (zs.getD k 0) else 0)) := hrow.cell hlt
      have hfr : wr.frozen? ⟨w.heap.size, k, none⟩ = false := hrow.frozen k
      have HZ : Hid (-2147483648 ≤ z ∧ z ≤ 2147483647) := hzk
      have EZ : Hid (z = zs.getD k 0) := ez
      clear ez hzk
      go_wp2
      all_goals
        go_roundw
        case rel =>
          refine ⟨k + 1, by omega, by go_num, _, _, rfl, rfl, ?_, ?_, hbel.setCell (Nat.le_refl _) _, (hrow.set k _).congr fun j hj => ?_⟩
          · intro j hj
            have h1 := HLH.out
            by_cases hjk : j = k
            · rw [hjk, ← EZ.out]; omega
            · have h2 := h1 j (by omega); omega
          · have h1 := HBD.out
            have h2 := HZ.out
            omega
          · by_cases hjk : j = k
            · rw [if_pos hjk, if_pos (by omega), hjk, ← EZ.out]; rfl
            · rw [if_neg hjk]
              by_cases hj2 : j < k
              · rw [if_pos hj2, if_pos (by omega)]
              · rw [if_neg hj2, if_neg (by omega)]
        case measure => simp [intOf]; omega
    · have hkn : k = n := by omega
      subst hkn
      have h1 := HLH.out
      have h2 := HBD.out
      have hm : ∀ i, i < k → wr.cell? ⟨w.heap.size, i, none⟩ = some (.float .f64 (((zs.take k).map F).getD i 0)) := by
        intro i hi
        rw [hrow.cell hi, if_pos hi, getD_map_take zs k i hi hl]
      obtain ⟨r, e3, e4, e5⟩ := mean_between (zs.take k) l h (take_all zs k hl h1) (by omega) (by omega) (by simp; omega) (by simp; omega)
      have g1 : (FloatKind.f64.format.order (floatOfInt FloatKind.f64 l) r == some Ordering.lt || FloatKind.f64.format.order (floatOfInt FloatKind.f64 l) r == some Ordering.eq) = true := leq_true e4
      have g2 : (FloatKind.f64.format.order r (floatOfInt FloatKind.f64 h) == some Ordering.lt || FloatKind.f64.format.order r (floatOfInt FloatKind.f64 h) == some Ordering.eq) = true := leq_true e5
      have E3 : Hid (meanA ((zs.take k).map F) = some r) := e3
      clear e3 e4 e5
      go_wp2_with fail
      refine (ZZMean_any w.heap.size k k ((zs.take k).map F) _ (by simp; omega) (by unfold maxLen; omega) hm).mono ?_
      rintro e w' ⟨r', rfl, hr, m, rfl⟩
      rw [E3.out] at hr
      obtain rfl : r' = r := hr
      go_wp2
      go_ret
      exact ⟨rfl, below_drewN hbel m⟩

theorem law3 (a0 : Option Addr) (len0 cap0 : Nat) (z0 : List Int) (w : World)
    (w0 : (a0 = none ∧ len0 = 0 ∧ cap0 = 0 ∧ z0 = []) ∨
      ∃ x, a0 = some x ∧ len0 ≤ cap0 ∧ cap0 ≤ maxLen ∧ z0.length = cap0 ∧ (∀ i, i < z0.length → w.cell? (x.add i) = some (.int .i32 (z0.getD i 0))) ∧ ∀ n ∈ z0, (Lit.int .i32 n).wf = true) :
    Calls Trym.prog 3 #[.slice a0 len0 cap0] w fun e w' => e = .returned (.bool true) ∧ Below w.heap.size w w' := by
  have hlen : len0 ≤ maxLen := by
    rcases w0 with ⟨-, rfl, -, -⟩ | ⟨x, -, h1, h2, -⟩
    · exact Nat.zero_le _
    · exact Nat.le_trans h1 h2
  by_cases hbig : 65536 < len0
  · unfold maxLen at hlen
    by_cases hbig2 : len0 ≤ 1048576
    · have e1 : decide (len0 ≤ 1048576) = true := by simp; omega
      have t1 : (65536 : Int) < (len0 : Int) := by omega
      go_enter Trym.func3, Trym.ntmps3
      go_wp2_with fail
      refine (bytes11 a0 len0 cap0 _ (by unfold maxLen; omega)).mono ?_
      rintro e w' ⟨rfl, rfl⟩
      go_wp2
      go_ret
      exact ⟨rfl, Below.refl _ _⟩
    · have e1 : decide (len0 ≤ 1048576) = false := by simp; omega
      go_enter Trym.func3, Trym.ntmps3
      go_wp2_with fail
      refine (bytes11 a0 len0 cap0 _ (by unfold maxLen; omega)).mono ?_
      rintro e w' ⟨rfl, rfl⟩
      go_wp2
      go_ret
      exact ⟨rfl, Below.refl _ _⟩
  · by_cases h0 : len0 = 0
    · subst h0
      have e1 : decide (0 ≤ 1048576) = true := by simp
      go_enter Trym.func3, Trym.ntmps3
      go_wp2_with fail
      refine (bytes11 a0 0 cap0 _ (Nat.zero_le _)).mono ?_
      rintro e w' ⟨rfl, rfl⟩
      go_wp2
      go_ret
      exact ⟨rfl, Below.refl _ _⟩
    · rcases w0 with ⟨-, h, -, -⟩ | ⟨x, rfl, hl, hm, hz, hcell, hwz⟩
      · exact absurd h h0
      · obtain ⟨b, off, spot⟩ := x
        have hc := hcell 0 (by omega)
        have hspot : spot = none := by simpa [Addr.add] using World.cell?_spot hc
        subst hspot
        refine law3_main b off len0 cap0 z0 w (by omega) (by omega) (by omega) (cell_lt hc) (fun i hi => ?_) (fun i hi => ?_)
        · have := hcell i (by omega)
          rw [addr_add] at this
          exact this
        · exact wf_i32 (hwz _ (getD_mem z0 i (by omega)))
end Go.Proofs.Qxb6001350aMods
