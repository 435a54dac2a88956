/-
  FnFitWithoutSizesIsTheMeanTime: the walk.
-/
import Derived.Test.Qxb6001350aModsCopy
import Derived.Test.Qxb6001350aModsPlain10
namespace Go.Proofs.Qxb6001350aMods
open Go.RowKit Fl
attribute [local go_sem] run_fadd run_fsub run_fmul run_fdiv alloc_drewN setCell_drewN run_store_float

theorem info34b : (Trym.prog.info? 34).map (fun i => (i.zero, i.size, i.bytes)) = some (some (.int .u64 0), 1, 8) := by kernel_rfl
theorem size25 : (Trym.prog.info? 25).map (·.size) = some 1 := by kernel_rfl

theorem bytes21 (a : Option Addr) (n cap : Nat) (w : World) (hn : n ≤ maxLen) :
    Calls Trym.prog 21 #[.slice a n cap] w fun e w' => e = .returned (.bool (decide (n ≤ 1048576))) ∧ w = w' := by
  unfold maxLen at hn
  by_cases h : n ≤ 1048576
  · have h1 : ¬ (1048576 : Int) < (n : Int) := by omega
    go_enter Trym.func21, Trym.ntmps21
    go_wp2
    go_ret
    exact ⟨by simp, rfl⟩
  · have h1 : (1048576 : Int) < (n : Int) := by omega
    go_enter Trym.func21, Trym.ntmps21
    go_wp2
    go_ret
    exact ⟨by simp [h], rfl⟩

theorem rowIs_list' (w : World) (t : TypeId) (cs : List Value) (n : Nat) (f : Nat → Value) (hl : cs.length = n) (h : ∀ i, i < n → cs[i]? = some (f i)) : (w.alloc (.cells cs.toArray t)).rowIs w.heap.size t n f := by
  have k := World.rowIs_alloc w cs.toArray t f
  rw [List.size_toArray, hl] at k
  exact k fun i hi => by rw [List.getElem?_toArray]; exact h i hi

set_option maxHeartbeats 1000000 in
theorem law10_main (b off n cap : Nat) (xs : List Nat) (w : World) (hl : xs.length = n) (h0 : 0 < n) (hn : n ≤ 65536)
    (hb : b < w.heap.size) (hc : ∀ i, i < n → w.cell? ⟨b, off + i, none⟩ = some (.float .f64 (xs.getD i 0))) :
    Calls Trym.prog 10 #[.slice (some ⟨b, off, none⟩) n cap] w fun e w' => e = .returned (.bool true) ∧ Below w.heap.size w w' := by
  have hmk := fun w => run_make_row' (P := Trym.prog) 24 25 (.float .f64 0) 8 Trym.underlying24 info25 rfl .i64 .i64 n (by omega) (by omega) w
  have hmk2 := fun w => run_make_row' (P := Trym.prog) 27 34 (.int .u64 0) 8 Trym.underlying27 info34b rfl .i64 .i64 n (by omega) (by omega) w
  obtain ⟨cs, ecs⟩ : ∃ cs, cs = xs.map (Value.float .f64) := ⟨_, rfl⟩
  have lcs : cs.length = n := by rw [ecs]; simp; omega
  have gcs : ∀ i, i < n → cs[i]? = some (.float .f64 (xs.getD i 0)) := by
    rw [ecs]
    intro i hi
    have h2 : i < xs.length := by omega
    simp [h2]
  have hcp := fun ty => copy_new (P := Trym.prog) w 24 ty 25 (.float .f64 0) n b off cap cs Trym.underlying24 size25 lcs hb (fun i v hv => by
      have hi : i < n := by
        rcases Nat.lt_or_ge i n with h | h
        · exact h
        · rw [List.getElem?_eq_none (by omega)] at hv; cases hv
      rw [gcs i hi] at hv
      rw [hc i hi]; exact hv) (by
      rw [ecs]
      intro v hv
      obtain ⟨x, -, rfl⟩ := List.mem_map.1 hv
      rfl)
  -- the world behind both makes and the copy
  obtain ⟨W, eW⟩ : ∃ W, W = (w.alloc (.cells cs.toArray 25)).alloc (.cells (madeCells #[.int .u64 0] n) 34) := ⟨_, rfl⟩
  have q0 : W.rowIs w.heap.size 25 n (fun i => .float .f64 (xs.getD i 0)) := by rw [eW]; exact (rowIs_list' w 25 cs n _ lcs gcs).alloc _
  have q1 : W.rowIs (w.heap.size + 1) 34 n (fun _ => .int .u64 0) := by
    rw [eW]
    have h := World.rowIs_made (w.alloc (.cells cs.toArray 25)) (.int .u64 0) n 34
    simpa using h
  have bW : Below w.heap.size w W := by rw [eW]; exact ((Below.refl _ _).alloc (Nat.le_refl _) _).alloc (by simp) _
  obtain ⟨rows, er⟩ : ∃ r, r = xs.map (fun x => ((0 : Nat), x)) := ⟨_, rfl⟩
  have gr : ∀ i, i < n → rows.getD i (0, 0) = (0, xs.getD i 0) := fun i hi => by
    have h2 : i < xs.length := by omega
    rw [er]; simp [h2]
  have lr : rows.length = n := by rw [er]; simp; omega
  have hrows : ∀ r ∈ rows, r.1 = 0 := by
    intro r hr
    rw [er] at hr
    obtain ⟨x, -, rfl⟩ := List.mem_map.1 hr
    rfl
  have etm : tmA rows = meanA xs := by
    unfold tmA
    rw [er, List.map_map]
    congr 1
    exact List.map_id' xs
  have hfit := fits_zero rows (by omega) (by omega) hrows
  rw [etm] at hfit
  have A := ZZFit_any (w.heap.size + 1) w.heap.size n n n rows W lr h0 hn q1.lt q0.lt (fun i hi => by rw [q1.cell hi, gr i hi]; rfl) (fun i hi => by rw [q0.cell hi, gr i hi]) (meanA xs) (some 0) hfit
  have HB : Hid (∀ W', Below W.heap.size W W' → Calls Trym.prog 12 #[.slice (some ⟨w.heap.size, 0, none⟩) n n] W' fun e w' => ∃ r, e = .returned (.float .f64 r) ∧ Opt (meanA xs) r ∧ ∃ m, w' = W'.drewN m) := by
    intro W' hW
    exact ZZMean_any w.heap.size n n xs W' hl (by unfold maxLen; omega) (fun i hi => (hW.cell (p := ⟨w.heap.size, i, none⟩) q0.lt).trans (q0.cell hi))
  clear hc gcs lcs ecs q0 q1 gr er lr hrows etm hfit
  have HW : Hid (W = (w.alloc (.cells cs.toArray 25)).alloc (.cells (madeCells #[.int .u64 0] n) 34)) := eW
  clear eW
  have e1 : decide (n ≤ 1048576) = true := by simp; omega
  have t1 : ¬ (65536 : Int) < (n : Int) := by omega
  have t2 : ((n : Int) == 0) = false := by simp; omega
  have o0 : (FloatKind.f64.format.order 0 0 == some Ordering.eq) = true := by decide
  go_enter Trym.func10, Trym.ntmps10
  go_wp2_with fail
  refine (bytes21 (some ⟨b, off, none⟩) n cap _ (by unfold maxLen; omega)).mono ?_
  rintro e w' ⟨rfl, rfl⟩
  go_wp2_with fail
  rw [← HW.out]
  refine A.mono ?_
  rintro e w1 ⟨c, p, rfl, hc, hp, hb1⟩
  obtain rfl : p = 0 := hp
  have HC : Hid (Opt (meanA xs) c) := hc
  clear hc A
  go_wp2_with fail
  refine (HB.out w1 hb1).mono ?_
  rintro e w2 ⟨m, rfl, hm, k, rfl⟩
  have hc := HC.out
  cases hv : meanA xs with
  | some v =>
    rw [hv] at hc hm
    obtain rfl : c = v := hc
    obtain rfl : m = c := hm
    have o1 : (FloatKind.f64.format.order m m == some Ordering.eq) = true := by
      have : FloatKind.f64.format.order m m = _ := ord_self (mean_nf hv)
      rw [this]; rfl
    clear hv
    go_wp2
    go_ret
    exact ⟨rfl, below_drewN (bW.trans (hb1.mono bW.size)) _⟩
  | none =>
    rw [hv] at hc hm
    have o1 : (FloatKind.f64.format.order c m == some Ordering.eq) = false := by
      have : FloatKind.f64.format.order c m = _ := ord_nanL m hc
      rw [this]; rfl
    have o2 : (FloatKind.f64.format.order c c != some Ordering.eq) = true := by
      have : FloatKind.f64.format.order c c = _ := ord_nanL c hc
      rw [this]; rfl
    have o3 : (FloatKind.f64.format.order m m != some Ordering.eq) = true := by
      have : FloatKind.f64.format.order m m = _ := ord_nanL m hm
      rw [this]; rfl
    clear hv hc hm
    go_wp2
    go_ret
    exact ⟨rfl, below_drewN (bW.trans (hb1.mono bW.size)) _⟩

theorem law10 (a0 : Option Addr) (len0 cap0 : Nat) (xs : List Nat) (w : World)
    (w0 : (a0 = none ∧ len0 = 0 ∧ cap0 = 0 ∧ xs = []) ∨
      ∃ x, a0 = some x ∧ len0 ≤ cap0 ∧ cap0 ≤ maxLen ∧ xs.length = len0 ∧ ∀ i, i < len0 → w.cell? (x.add i) = some (.float .f64 (xs.getD i 0))) :
    Calls Trym.prog 10 #[.slice a0 len0 cap0] w fun e w' => e = .returned (.bool true) ∧ Below w.heap.size w w' := by
  have hlen : len0 ≤ maxLen := by
    rcases w0 with ⟨-, rfl, -, -⟩ | ⟨x, -, h1, h2, -⟩
    · exact Nat.zero_le _
    · exact Nat.le_trans h1 h2
  by_cases hbig : 65536 < len0
  · unfold maxLen at hlen
    by_cases hbig2 : len0 ≤ 1048576
    · have e1 : decide (len0 ≤ 1048576) = true := by simp; omega
      have t1 : (65536 : Int) < (len0 : Int) := by omega
      go_enter Trym.func10, Trym.ntmps10
      go_wp2_with fail
      refine (bytes21 a0 len0 cap0 _ (by unfold maxLen; omega)).mono ?_
      rintro e w' ⟨rfl, rfl⟩
      go_wp2
      go_ret
      exact ⟨rfl, Below.refl _ _⟩
    · have e1 : decide (len0 ≤ 1048576) = false := by simp; omega
      go_enter Trym.func10, Trym.ntmps10
      go_wp2_with fail
      refine (bytes21 a0 len0 cap0 _ (by unfold maxLen; omega)).mono ?_
      rintro e w' ⟨rfl, rfl⟩
      go_wp2
      go_ret
      exact ⟨rfl, Below.refl _ _⟩
  · by_cases h0 : len0 = 0
    · subst h0
      have e1 : decide (0 ≤ 1048576) = true := by simp
      go_enter Trym.func10, Trym.ntmps10
      go_wp2_with fail
      refine (bytes21 a0 0 cap0 _ (Nat.zero_le _)).mono ?_
      rintro e w' ⟨rfl, rfl⟩
      go_wp2
      go_ret
      exact ⟨rfl, Below.refl _ _⟩
    · rcases w0 with ⟨-, h, -, -⟩ | ⟨x, rfl, hl, hm, hz, hcell⟩
      · exact absurd h h0
      · obtain ⟨b, off, spot⟩ := x
        have hc := hcell 0 (by omega)
        have hspot : spot = none := by simpa [Addr.add] using World.cell?_spot hc
        subst hspot
        refine law10_main b off len0 cap0 xs w hz (by omega) (by omega) (cell_lt hc) (fun i hi => ?_)
        have := hcell i hi
        rw [addr_add] at this
        exact this
end Go.Proofs.Qxb6001350aMods
