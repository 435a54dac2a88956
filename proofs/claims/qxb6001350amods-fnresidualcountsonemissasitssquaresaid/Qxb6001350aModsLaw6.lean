/-
  FnResidualCountsOneMissAsItsSquare: the walk.
-/
import Derived.Test.Qxb6001350aModsZResid
import Derived.Test.Qxb6001350aModsPlain6
import Derived.Test.Qxb6001350aModsLaw3
namespace Go.Proofs.Qxb6001350aMods
open Go.RowKit Fl
attribute [local go_sem] run_fadd run_fsub run_fmul run_fdiv alloc_drewN setCell_drewN run_store_float

theorem info34 : (Trym.prog.info? 34).map (fun i => (i.zero, i.size, i.bytes)) = some (some (.int .u64 0), 1, 8) := by kernel_rfl

theorem hidden {p : Prop} (h : p) : Hid p := h

theorem prod_bound (p z : Int) (hp : -32768 ≤ p ∧ p ≤ 32767) (hz : 0 ≤ z ∧ z ≤ 4294967295) : -140737488355328 ≤ p * z ∧ p * z ≤ 140737488355328 := by
  have h : (p * z).natAbs ≤ 32768 * 4294967295 := by
    rw [Int.natAbs_mul]
    exact Nat.mul_le_mul (by omega) (by omega)
  omega

theorem row_next {α : Type} (C : α → Value) (f : Nat → α) (d : α) {w : World} {B n m : Nat} {t : TypeId} {x : α} (hx : x = f m) (h : w.rowIs B t n (fun i => C (if i < m then f i else d))) :
    (w.setCell ⟨B, m, none⟩ (C x)).rowIs B t n (fun i => C (if i < m + 1 then f i else d)) := by
  refine (h.set m _).congr fun i _ => ?_
  by_cases h1 : i = m
  · subst h1; rw [if_pos rfl, if_pos (by omega), hx]
  · rw [if_neg h1]
    by_cases h2 : i < m
    · rw [if_pos h2, if_pos (by omega)]
    · rw [if_neg h2, if_neg (by omega)]

theorem getD_range {α : Type} (n : Nat) (f : Nat → α) (d : α) (i : Nat) (h : i < n) : ((List.range n).map f).getD i d = f i := by
  simp [h]

theorem sq_bound (k : Int) (hk : -32768 ≤ k ∧ k ≤ 32767) : 0 ≤ k * k ∧ k * k ≤ 1073741824 := by
  have h : (k * k).natAbs ≤ 32768 * 32768 := by
    rw [Int.natAbs_mul]
    exact Nat.mul_le_mul (by omega) (by omega)
  have h2 := Int.natAbs_mul_self (a := k)
  omega

theorem bytes16 (c p j k : Int) (a : Option Addr) (n cap : Nat) (w : World) (hn : n ≤ maxLen) :
    Calls Trym.prog 16 #[.int .i32 c, .int .i16 p, .slice a n cap, .int .i64 j, .int .i16 k] w fun e w' => e = .returned (.bool (decide (n ≤ 1048576))) ∧ w = w' := by
  unfold maxLen at hn
  by_cases h : n ≤ 1048576
  · have h1 : ¬ (1048576 : Int) < (n : Int) := by omega
    go_enter Trym.func16, Trym.ntmps16
    go_wp2
    go_ret
    exact ⟨by simp, rfl⟩
  · have h1 : (1048576 : Int) < (n : Int) := by omega
    go_enter Trym.func16, Trym.ntmps16
    go_wp2
    go_ret
    exact ⟨by simp [h], rfl⟩

set_option maxHeartbeats 1000000 in
theorem law6_main (c p k : Int) (j b off n cap : Nat) (zs : List Int) (w : World) (hl : n ≤ zs.length) (hj : j < n) (hn : n ≤ 65536)
    (hb : b < w.heap.size) (hc : ∀ i, i < n → w.cell? ⟨b, off + i, none⟩ = some (.int .u32 (zs.getD i 0)))
    (hz : ∀ i, i < n → 0 ≤ zs.getD i 0 ∧ zs.getD i 0 ≤ 4294967295) (bc : -2147483648 ≤ c ∧ c ≤ 2147483647) (bp : -32768 ≤ p ∧ p ≤ 32767) (bk : -32768 ≤ k ∧ k ≤ 32767) :
    Calls Trym.prog 6 #[.int .i32 c, .int .i16 p, .slice (some ⟨b, off, none⟩) n cap, .int .i64 j, .int .i16 k] w fun e w' => e = .returned (.bool true) ∧ Below w.heap.size w w' := by
  have hmk := fun w => run_make_row' (P := Trym.prog) 24 25 (.float .f64 0) 8 Trym.underlying24 info25 rfl .i64 .i64 n (by omega) (by omega) w
  have hmk2 := fun w => run_make_row' (P := Trym.prog) 27 34 (.int .u64 0) 8 Trym.underlying27 info34 rfl .i64 .i64 n (by omega) (by omega) w
  have e1 : decide (n ≤ 1048576) = true := by simp; omega
  have t1 : ¬ (65536 : Int) < (n : Int) := by omega
  have t2 : ¬ (j : Int) < 0 := by omega
  have t3 : ¬ (n : Int) ≤ (j : Int) := by omega
  have HC : Hid (∀ i, i < n → w.cell? ⟨b, off + i, none⟩ = some (.int .u32 (zs.getD i 0))) := hc
  have HZ : Hid (∀ i, i < n → 0 ≤ zs.getD i 0 ∧ zs.getD i 0 ≤ 4294967295) := hz
  clear hc hz
  go_enter Trym.func6, Trym.ntmps6
  go_wp2_with fail
  refine (bytes16 c p j k (some ⟨b, off, none⟩) n cap _ (by unfold maxLen; omega)).mono ?_
  rintro e w' ⟨rfl, rfl⟩
  go_wp2
  go_loopw [51] (fun i wr => ∃ m : Nat, m ≤ n ∧ i = .int .i64 m ∧ Below w.heap.size w wr ∧ wr.rowIs w.heap.size 34 n (fun i => .int .u64 (if i < m then zs.getD i 0 else 0)) ∧
      wr.rowIs (w.heap.size + 1) 25 n (fun i => .float .f64 (if i < m then F (c + p * zs.getD i 0) else 0)) ∧ wr.rowIs (w.heap.size + 2) 25 n (fun i => .float .f64 (if i < m then F (c + p * zs.getD i 0) else 0)))
    (fun i _ => n - (intOf i).toNat)
  case atStart =>
    refine ⟨0, Nat.zero_le _, rfl, ?_, ?_, ?_, ?_⟩
    · exact (((Below.refl _ _).alloc (Nat.le_refl _) _).alloc (by simp) _).alloc (by simp; omega) _
    · exact ((World.rowIs_made _ _ _ _).alloc _).alloc _
    · have h := (World.rowIs_made (w.alloc (.cells (madeCells #[.int .u64 0] n) 34)) (.float .f64 0) n 25).alloc (.cells (madeCells #[.float .f64 0] n) 25)
      simpa using h
    · have h := (World.rowIs_made ((w.alloc (.cells (madeCells #[.int .u64 0] n) 34)).alloc (.cells (madeCells #[.float .f64 0] n) 25)) (.float .f64 0) n 25)
      simpa using h
  case round =>
    obtain ⟨m, hm, rfl, hbel, hr0, hr1, hr2⟩ := hrel
    by_cases hlt : m < n
    · obtain ⟨z, ez⟩ : ∃ z, z = zs.getD m 0 := ⟨_, rfl⟩
      have hck : wr.cell? ⟨b, off + m, none⟩ = some (.int .u32 z) := by rw [ez]; exact (hbel.cell (by exact hb)).trans (HC.out m hlt)
      have hzk : 0 ≤ z ∧ z ≤ 4294967295 := by rw [ez]; exact HZ.out m hlt
      have hpz := prod_bound p z bp hzk
      have s0 := hr0.cell hlt
      have s1 := hr1.cell hlt
      have s2 := hr2.cell hlt
      have f0 := hr0.frozen m
      have f1 := hr1.frozen m
      have f2 := hr2.frozen m
      have EZ : Hid (z = zs.getD m 0) := ez
      clear ez
      go_wp2
      go_roundw
      case rel =>
        refine ⟨m + 1, by omega, by go_num, ?_, ?_, ?_, ?_⟩
        · exact ((hbel.setCell (Nat.le_refl _) _).setCell (by simp) _).setCell (by simp; omega) _
        · exact ((row_next (Value.int .u64) (fun i => zs.getD i 0) 0 EZ.out hr0).setOther (by simp) _).setOther (by simp; omega) _
        · exact (row_next (Value.float .f64) (fun i => F (c + p * zs.getD i 0)) 0 (by rw [EZ.out]; rfl) (hr1.setOther (by simp) _)).setOther (by simp) _
        · exact row_next (Value.float .f64) (fun i => F (c + p * zs.getD i 0)) 0 (by rw [EZ.out]; rfl) ((hr2.setOther (by simp) _).setOther (by simp) _)
      case measure => simp [intOf]; omega
    · have hmn : m = n := by omega
      subst hmn
      have hck : wr.cell? ⟨b, off + j, none⟩ = some (.int .u32 (zs.getD j 0)) := (hbel.cell (by exact hb)).trans (HC.out j hj)
      obtain ⟨z, ez⟩ : ∃ z, z = zs.getD j 0 := ⟨_, rfl⟩
      rw [← ez] at hck
      have hzk : 0 ≤ z ∧ z ≤ 4294967295 := by rw [ez]; exact HZ.out j hj
      have hpz := prod_bound p z bp hzk
      have hkk := sq_bound k bk
      have s2 := hr2.cell hj
      have f2 := hr2.frozen j
      have EZ : Hid (z = zs.getD j 0) := ez
      clear ez
      -- the two workloads, and what residual gives of them
      obtain ⟨W, eW⟩ : ∃ W, W = wr.setCell ⟨w.heap.size + 1 + 1, j, none⟩ (.float .f64 (floatOfInt .f64 (c + p * z + k))) := ⟨_, rfl⟩
      obtain ⟨rows0, er0⟩ : ∃ r, r = (List.range m).map (fun i => ((zs.getD i 0).toNat, F (c + p * zs.getD i 0))) := ⟨_, rfl⟩
      obtain ⟨rows1, er1⟩ : ∃ r, r = (List.range m).map (fun i => ((zs.getD i 0).toNat, F (c + p * zs.getD i 0 + if i = j then k else 0))) := ⟨_, rfl⟩
      have g0 : ∀ i, i < m → rows0.getD i (0, 0) = ((zs.getD i 0).toNat, F (c + p * zs.getD i 0)) := fun i hi => by rw [er0]; exact getD_range m _ _ i hi
      have g1 : ∀ i, i < m → rows1.getD i (0, 0) = ((zs.getD i 0).toNat, F (c + p * zs.getD i 0 + if i = j then k else 0)) := fun i hi => by rw [er1]; exact getD_range m _ _ i hi
      have l0 : rows0.length = m := by rw [er0]; simp
      have l1 : rows1.length = m := by rw [er1]; simp
      have q0 : W.rowIs w.heap.size 34 m (fun i => .int .u64 (if i < m then zs.getD i 0 else 0)) := by rw [eW]; exact hr0.setOther (by simp; omega) _
      have q1 : W.rowIs (w.heap.size + 1) 25 m (fun i => .float .f64 (if i < m then F (c + p * zs.getD i 0) else 0)) := by rw [eW]; exact hr1.setOther (by simp) _
      have q2 : W.rowIs (w.heap.size + 2) 25 m (fun i => .float .f64 (if i < m then F (c + p * zs.getD i 0 + if i = j then k else 0) else 0)) := by
        rw [eW]
        refine (hr2.set j _).congr fun i hi => ?_
        rw [if_pos hi, if_pos hi]
        by_cases h : i = j
        · subst h; rw [if_pos rfl, if_pos rfl, EZ.out]; rfl
        · rw [if_neg h, if_neg h, Int.add_zero]
      have qb : Below w.heap.size w W := by rw [eW]; exact hbel.setCell (by simp; omega) _
      have qs : w.heap.size + 2 < W.heap.size := q2.lt
      have nn : ∀ i, i < m → (((zs.getD i 0).toNat : Nat) : Int) = zs.getD i 0 := fun i hi => by have := HZ.out i hi; omega
      have c0 : ∀ i, i < m → W.cell? ⟨w.heap.size, i, none⟩ = some (.int .u64 (rows0.getD i (0, 0)).1) := fun i hi => by
        rw [q0.cell hi, if_pos hi, g0 i hi, nn i hi]
      have c1 : ∀ i, i < m → W.cell? ⟨w.heap.size + 1, i, none⟩ = some (.float .f64 (rows0.getD i (0, 0)).2) := fun i hi => by
        rw [q1.cell hi, if_pos hi, g0 i hi]
      have d0 : ∀ i, i < m → W.cell? ⟨w.heap.size, i, none⟩ = some (.int .u64 (rows1.getD i (0, 0)).1) := fun i hi => by
        rw [q0.cell hi, if_pos hi, g1 i hi, nn i hi]
      have d1 : ∀ i, i < m → W.cell? ⟨w.heap.size + 1 + 1, i, none⟩ = some (.float .f64 (rows1.getD i (0, 0)).2) := fun i hi => by
        have := q2.cell hi
        rw [if_pos hi] at this
        rw [g1 i hi]; exact this
      obtain ⟨x0, ex0, nx0⟩ := resid_ni c p 0 j rows0 (by omega) (by omega) (by omega) (fun i hi => by
        rw [l0] at hi
        have := HZ.out i hi
        rw [g0 i hi]
        refine ⟨by show (zs.getD i 0).toNat ≤ _; omega, ?_⟩
        show F (c + p * zs.getD i 0) = F (c + p * (((zs.getD i 0).toNat : Nat) : Int) + _)
        rw [nn i hi, ite_self, Int.add_zero]) m (by omega)
      obtain ⟨x1, ex1, nx1⟩ := resid_ni c p k j rows1 (by omega) (by omega) (by omega) (fun i hi => by
        rw [l1] at hi
        have := HZ.out i hi
        rw [g1 i hi]
        refine ⟨by show (zs.getD i 0).toNat ≤ _; omega, ?_⟩
        show F (c + p * zs.getD i 0 + _) = F (c + p * (((zs.getD i 0).toNat : Nat) : Int) + _)
        rw [nn i hi]) m (by omega)
      rw [List.take_of_length_le (by omega)] at ex0 ex1
      rw [if_pos hj] at nx0 nx1
      have o0 : (FloatKind.f64.format.order x0 0 == some Ordering.eq) = true := by
        have : FloatKind.f64.format.order x0 0 = _ := ord_ni nx0 zero_ni
        rw [this]; rfl
      have o1 : (FloatKind.f64.format.order x1 (floatOfInt FloatKind.f64 (k * k)) == some Ordering.eq) = true := by
        have : FloatKind.f64.format.order x1 (floatOfInt FloatKind.f64 (k * k)) = _ := ord_ni nx1 (F_ni (k * k) (by omega))
        rw [this]
        simp [compare, compareOfLessAndEq]
      have A0 := ZZResidual_any (F c) (F p) w.heap.size (w.heap.size + 1) m m m rows0 W l0 hn (by omega) (by omega) c0 c1
      rw [ex0] at A0
      have HA1 : Hid (∀ W', Below W.heap.size W W' → Calls Trym.prog 15 #[.float .f64 (F c), .float .f64 (F p), .slice (some ⟨w.heap.size, 0, none⟩) m m, .slice (some ⟨w.heap.size + 1 + 1, 0, none⟩) m m] W' fun e w' => ∃ r, e = .returned (.float .f64 r) ∧ Opt (some x1) r ∧ Below W'.heap.size W' w') := by
        intro W' hW
        have hs := hW.size
        have A1 := ZZResidual_any (F c) (F p) w.heap.size (w.heap.size + 1 + 1) m m m rows1 W' l1 hn (by omega) (by omega) (fun i hi => (hW.cell (p := ⟨w.heap.size, i, none⟩) (by show w.heap.size < W.heap.size; omega)).trans (d0 i hi)) (fun i hi => (hW.cell (p := ⟨w.heap.size + 1 + 1, i, none⟩) (by show w.heap.size + 1 + 1 < W.heap.size; omega)).trans (d1 i hi))
        rw [ex1] at A1
        exact A1
      have HA0 := hidden A0
      clear A0 c0 c1 d0 d1 q0 q1 q2 g0 g1 er0 er1 l0 l1 nn nx0 nx1 ex0 ex1
      go_wp2_with fail
      rw [← eW]
      have EW : Hid (W = wr.setCell ⟨w.heap.size + 1 + 1, j, none⟩ (.float .f64 (floatOfInt .f64 (c + p * z + k)))) := eW
      clear eW
      refine Calls.mono HA0.out ?_
      rintro e w1 ⟨r, rfl, hr, hb1⟩
      obtain rfl : r = x0 := hr
      go_wp2_with fail
      refine (HA1.out w1 hb1).mono ?_
      rintro e w2 ⟨r', rfl, hr', hb2⟩
      obtain rfl : r' = x1 := hr'
      go_wp2
      go_ret
      have := qb.size
      have := hb1.size
      exact ⟨rfl, (qb.trans (hb1.mono (by omega))).trans (hb2.mono (by omega))⟩

theorem wf_i16 {n : Int} (h : (Lit.int .i16 n).wf = true) : -32768 ≤ n ∧ n ≤ 32767 := by
  simp [Lit.wf, IntKind.min, IntKind.max, IntKind.signed, IntKind.bits] at h
  omega
theorem wf_u32 {n : Int} (h : (Lit.int .u32 n).wf = true) : 0 ≤ n ∧ n ≤ 4294967295 := by
  simp [Lit.wf, IntKind.min, IntKind.max, IntKind.signed, IntKind.bits] at h
  omega

theorem law6 (a0 : Int) (a1 : Int) (a2 : Option Addr) (len2 cap2 : Nat) (z2 : List Int) (a3 : Int) (a4 : Int) (w : World) (w0 : (Lit.int .i32 a0).wf = true) (w1 : (Lit.int .i16 a1).wf = true)
    (w2 : (a2 = none ∧ len2 = 0 ∧ cap2 = 0 ∧ z2 = []) ∨
      ∃ x, a2 = some x ∧ len2 ≤ cap2 ∧ cap2 ≤ maxLen ∧ z2.length = cap2 ∧ (∀ i, i < z2.length → w.cell? (x.add i) = some (.int .u32 (z2.getD i 0))) ∧ ∀ n ∈ z2, (Lit.int .u32 n).wf = true)
    (w4 : (Lit.int .i16 a4).wf = true) :
    Calls Trym.prog 6 #[.int .i32 a0, .int .i16 a1, .slice a2 len2 cap2, .int .i64 a3, .int .i16 a4] w fun e w' => e = .returned (.bool true) ∧ Below w.heap.size w w' := by
  have hlen : len2 ≤ maxLen := by
    rcases w2 with ⟨-, rfl, -, -⟩ | ⟨x, -, h1, h2, -⟩
    · exact Nat.zero_le _
    · exact Nat.le_trans h1 h2
  by_cases hbig : 65536 < len2
  · unfold maxLen at hlen
    by_cases hbig2 : len2 ≤ 1048576
    · have e1 : decide (len2 ≤ 1048576) = true := by simp; omega
      have t1 : (65536 : Int) < (len2 : Int) := by omega
      go_enter Trym.func6, Trym.ntmps6
      go_wp2_with fail
      refine (bytes16 a0 a1 a3 a4 a2 len2 cap2 _ (by unfold maxLen; omega)).mono ?_
      rintro e w' ⟨rfl, rfl⟩
      go_wp2
      go_ret
      exact ⟨rfl, Below.refl _ _⟩
    · have e1 : decide (len2 ≤ 1048576) = false := by simp; omega
      go_enter Trym.func6, Trym.ntmps6
      go_wp2_with fail
      refine (bytes16 a0 a1 a3 a4 a2 len2 cap2 _ (by unfold maxLen; omega)).mono ?_
      rintro e w' ⟨rfl, rfl⟩
      go_wp2
      go_ret
      exact ⟨rfl, Below.refl _ _⟩
  · by_cases hj0 : a3 < 0
    · have e1 : decide (len2 ≤ 1048576) = true := by simp; omega
      have t1 : ¬ (65536 : Int) < (len2 : Int) := by omega
      go_enter Trym.func6, Trym.ntmps6
      go_wp2_with fail
      refine (bytes16 a0 a1 a3 a4 a2 len2 cap2 _ hlen).mono ?_
      rintro e w' ⟨rfl, rfl⟩
      go_wp2
      go_ret
      exact ⟨rfl, Below.refl _ _⟩
    · by_cases hj1 : (len2 : Int) ≤ a3
      · have e1 : decide (len2 ≤ 1048576) = true := by simp; omega
        have t1 : ¬ (65536 : Int) < (len2 : Int) := by omega
        go_enter Trym.func6, Trym.ntmps6
        go_wp2_with fail
        refine (bytes16 a0 a1 a3 a4 a2 len2 cap2 _ hlen).mono ?_
        rintro e w' ⟨rfl, rfl⟩
        go_wp2
        go_ret
        exact ⟨rfl, Below.refl _ _⟩
      · obtain ⟨j, rfl⟩ := Int.eq_ofNat_of_zero_le (show 0 ≤ a3 by omega)
        rcases w2 with ⟨-, h, -, -⟩ | ⟨x, rfl, hl, hm, hz, hcell, hwz⟩
        · omega
        · obtain ⟨b, off, spot⟩ := x
          have hc := hcell 0 (by omega)
          have hspot : spot = none := by simpa [Addr.add] using World.cell?_spot hc
          subst hspot
          refine law6_main a0 a1 a4 j b off len2 cap2 z2 w (by omega) (by omega) (by omega) (cell_lt hc) (fun i hi => ?_) (fun i hi => ?_) (wf_i32 w0) (wf_i16 w1) (wf_i16 w4)
          · have := hcell i (by omega)
            rw [addr_add] at this
            exact this
          · exact wf_u32 (hwz _ (getD_mem z2 i (by omega)))
end Go.Proofs.Qxb6001350aMods
