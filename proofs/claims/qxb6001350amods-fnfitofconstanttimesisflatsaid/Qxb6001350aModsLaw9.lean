/-
  FnFitOfConstantTimesIsFlat: the walk.
-/
import Derived.Test.Qxb6001350aModsCopy
import Derived.Test.Qxb6001350aModsPlain9
namespace Go.Proofs.Qxb6001350aMods
open Go.RowKit Fl
attribute [local go_sem] run_fadd run_fsub run_fmul run_fdiv alloc_drewN setCell_drewN run_store_float

theorem info34' : (Trym.prog.info? 34).map (fun i => (i.zero, i.size, i.bytes)) = some (some (.int .u64 0), 1, 8) := by kernel_rfl
theorem size34 : (Trym.prog.info? 34).map (·.size) = some 1 := by kernel_rfl

theorem bytes20 (t : Int) (a : Option Addr) (n cap : Nat) (w : World) (hn : n ≤ maxLen) :
    Calls Trym.prog 20 #[.slice a n cap, .int .u32 t] w fun e w' => e = .returned (.bool (decide (n ≤ 1048576))) ∧ w = w' := by
  unfold maxLen at hn
  by_cases h : n ≤ 1048576
  · have h1 : ¬ (1048576 : Int) < (n : Int) := by omega
    go_enter Trym.func20, Trym.ntmps20
    go_wp2
    go_ret
    exact ⟨by simp, rfl⟩
  · have h1 : (1048576 : Int) < (n : Int) := by omega
    go_enter Trym.func20, Trym.ntmps20
    go_wp2
    go_ret
    exact ⟨by simp [h], rfl⟩

theorem rowIs_list (w : World) (t : TypeId) (cs : List Value) (n : Nat) (f : Nat → Value) (hl : cs.length = n) (h : ∀ i, i < n → cs[i]? = some (f i)) : (w.alloc (.cells cs.toArray t)).rowIs w.heap.size t n f := by
  have k := World.rowIs_alloc w cs.toArray t f
  rw [List.size_toArray, hl] at k
  exact k fun i hi => by rw [List.getElem?_toArray]; exact h i hi

theorem ints_get (zs : List Int) (n : Nat) (k : IntKind) (hl : n ≤ zs.length) : ∀ i, i < n → ((zs.take n).map (Value.int k))[i]? = some (.int k (zs.getD i 0)) := by
  intro i hi
  have h2 : i < zs.length := by omega
  simp [hi, h2]

set_option maxHeartbeats 1000000 in
theorem law9_main (t b off n cap : Nat) (zs : List Int) (w : World) (hl : n ≤ zs.length) (h0 : 0 < n) (hn : n ≤ 65536)
    (hb : b < w.heap.size) (hc : ∀ i, i < n → w.cell? ⟨b, off + i, none⟩ = some (.int .u64 (zs.getD i 0)))
    (hz : ∀ i, i < n → 0 ≤ zs.getD i 0 ∧ zs.getD i 0 ≤ 18446744073709551615) (ht : t ≤ 4294967295) :
    Calls Trym.prog 9 #[.slice (some ⟨b, off, none⟩) n cap, .int .u32 t] w fun e w' => e = .returned (.bool true) ∧ Below w.heap.size w w' := by
  have hmk := fun w => run_make_row' (P := Trym.prog) 24 25 (.float .f64 0) 8 Trym.underlying24 info25 rfl .i64 .i64 n (by omega) (by omega) w
  have hmk2 := fun w => run_make_row' (P := Trym.prog) 27 34 (.int .u64 0) 8 Trym.underlying27 info34' rfl .i64 .i64 n (by omega) (by omega) w
  obtain ⟨cs, ecs⟩ : ∃ cs, cs = (zs.take n).map (Value.int .u64) := ⟨_, rfl⟩
  have lcs : cs.length = n := by rw [ecs]; simp; omega
  have gcs : ∀ i, i < n → cs[i]? = some (.int .u64 (zs.getD i 0)) := by rw [ecs]; exact ints_get zs n .u64 hl
  have hcp := fun ty => copy_new (P := Trym.prog) w 27 ty 34 (.int .u64 0) n b off cap cs Trym.underlying27 size34 lcs hb (fun i v hv => by
      have hi : i < n := by
        rcases Nat.lt_or_ge i n with h | h
        · exact h
        · rw [List.getElem?_eq_none (by omega)] at hv; cases hv
      rw [gcs i hi] at hv
      rw [hc i hi]; exact hv) (by rw [ecs]; exact ints_oneCell _ _)
  have hrow0 := rowIs_list w 34 cs n (fun i => .int .u64 (zs.getD i 0)) lcs gcs
  have HC : Hid (∀ i, i < n → w.cell? ⟨b, off + i, none⟩ = some (.int .u64 (zs.getD i 0))) := hc
  have HZ : Hid (∀ i, i < n → 0 ≤ zs.getD i 0 ∧ zs.getD i 0 ≤ 18446744073709551615) := hz
  clear hc hz gcs lcs ecs
  have e1 : decide (n ≤ 1048576) = true := by simp; omega
  have t1 : ¬ (65536 : Int) < (n : Int) := by omega
  have t2 : ((n : Int) == 0) = false := by simp; omega
  go_enter Trym.func9, Trym.ntmps9
  go_wp2_with fail
  refine (bytes20 t (some ⟨b, off, none⟩) n cap _ (by unfold maxLen; omega)).mono ?_
  rintro e w' ⟨rfl, rfl⟩
  go_wp2
  go_loopw [34] (fun i wr => ∃ m : Nat, m ≤ n ∧ i = .int .i64 m ∧ Below w.heap.size w wr ∧ wr.rowIs w.heap.size 34 n (fun i => .int .u64 (zs.getD i 0)) ∧
      wr.rowIs (w.heap.size + 1) 25 n (fun i => .float .f64 (if i < m then F t else 0)))
    (fun i _ => n - (intOf i).toNat)
  case atStart =>
    refine ⟨0, Nat.zero_le _, rfl, ?_, hrow0.alloc _, ?_⟩
    · exact ((Below.refl _ _).alloc (Nat.le_refl _) _).alloc (by simp) _
    · have h := (World.rowIs_made (w.alloc (.cells cs.toArray 34)) (.float .f64 0) n 25)
      simpa using h
  case round =>
    obtain ⟨m, hm, rfl, hbel, hr0, hr1⟩ := hrel
    by_cases hlt : m < n
    · have s1 := hr1.cell hlt
      have f1 := hr1.frozen m
      go_wp2
      go_roundw
      case rel =>
        refine ⟨m + 1, by omega, by go_num, ?_, ?_, ?_⟩
        · exact hbel.setCell (by simp) _
        · exact hr0.setOther (by simp) _
        · exact row_next' (Value.float .f64) (fun _ => F t) 0 rfl hr1
      case measure => simp [intOf]; omega
    · have hmn : m = n := by omega
      subst hmn
      obtain ⟨rows, er⟩ : ∃ r, r = (List.range m).map (fun i => ((zs.getD i 0).toNat, F (t : Int))) := ⟨_, rfl⟩
      have gr : ∀ i, i < m → rows.getD i (0, 0) = ((zs.getD i 0).toNat, F (t : Int)) := fun i hi => by rw [er]; simp [hi]
      have lr : rows.length = m := by rw [er]; simp
      have hrows : ∀ r ∈ rows, r.1 ≤ 2 ^ 64 ∧ r.2 = F (t : Int) := by
        intro r hr
        rw [er] at hr
        simp only [List.mem_map, List.mem_range] at hr
        obtain ⟨i, hi, rfl⟩ := hr
        have := HZ.out i hi
        refine ⟨?_, rfl⟩
        show (zs.getD i 0).toNat ≤ 2 ^ 64
        omega
      obtain ⟨c, p, hfit, nc, np⟩ := fits_flat rows t (by omega) (by omega) (by omega) hrows
      have o0 : (FloatKind.f64.format.order c (floatOfInt FloatKind.f64 (t : Int)) == some Ordering.eq) = true := by
        have : FloatKind.f64.format.order c (floatOfInt FloatKind.f64 (t : Int)) = _ := ord_ni nc (F_ni (t : Int) (by omega))
        rw [this]
        simp [compare, compareOfLessAndEq]
      have o1 : (FloatKind.f64.format.order p 0 == some Ordering.eq) = true := by
        have : FloatKind.f64.format.order p 0 = _ := ord_ni np zero_ni
        rw [this]; rfl
      have A := ZZFit_any w.heap.size (w.heap.size + 1) m m m rows wr lr h0 hn hr0.lt hr1.lt
        (fun i hi => by
          rw [hr0.cell hi, gr i hi]
          have := HZ.out i hi
          show some (Value.int .u64 (zs.getD i 0)) = some (Value.int .u64 (((zs.getD i 0).toNat : Nat) : Int))
          rw [show (((zs.getD i 0).toNat : Nat) : Int) = zs.getD i 0 from by omega])
        (fun i hi => by rw [hr1.cell hi, if_pos hi, gr i hi]) (some c) (some p) hfit
      clear hfit nc np hrows gr er lr
      go_wp2_with fail
      refine A.mono ?_
      rintro e w1 ⟨c', p', rfl, hc', hp', hb1⟩
      obtain rfl : c' = c := hc'
      obtain rfl : p' = p := hp'
      go_wp2
      go_ret
      exact ⟨rfl, hbel.trans (hb1.mono hbel.size)⟩

theorem wf_u64 {n : Int} (h : (Lit.int .u64 n).wf = true) : 0 ≤ n ∧ n ≤ 18446744073709551615 := by
  simp [Lit.wf, IntKind.min, IntKind.max, IntKind.signed, IntKind.bits] at h
  omega
theorem wf_u32' {n : Int} (h : (Lit.int .u32 n).wf = true) : 0 ≤ n ∧ n ≤ 4294967295 := by
  simp [Lit.wf, IntKind.min, IntKind.max, IntKind.signed, IntKind.bits] at h
  omega

theorem law9 (a0 : Option Addr) (len0 cap0 : Nat) (z0 : List Int) (a1 : Int) (w : World)
    (w0 : (a0 = none ∧ len0 = 0 ∧ cap0 = 0 ∧ z0 = []) ∨
      ∃ x, a0 = some x ∧ len0 ≤ cap0 ∧ cap0 ≤ maxLen ∧ z0.length = cap0 ∧ (∀ i, i < z0.length → w.cell? (x.add i) = some (.int .u64 (z0.getD i 0))) ∧ ∀ n ∈ z0, (Lit.int .u64 n).wf = true)
    (w1 : (Lit.int .u32 a1).wf = true) :
    Calls Trym.prog 9 #[.slice a0 len0 cap0, .int .u32 a1] w fun e w' => e = .returned (.bool true) ∧ Below w.heap.size w w' := by
  have hlen : len0 ≤ maxLen := by
    rcases w0 with ⟨-, rfl, -, -⟩ | ⟨x, -, h1, h2, -⟩
    · exact Nat.zero_le _
    · exact Nat.le_trans h1 h2
  by_cases hbig : 65536 < len0
  · unfold maxLen at hlen
    by_cases hbig2 : len0 ≤ 1048576
    · have e1 : decide (len0 ≤ 1048576) = true := by simp; omega
      have t1 : (65536 : Int) < (len0 : Int) := by omega
      go_enter Trym.func9, Trym.ntmps9
      go_wp2_with fail
      refine (bytes20 a1 a0 len0 cap0 _ (by unfold maxLen; omega)).mono ?_
      rintro e w' ⟨rfl, rfl⟩
      go_wp2
      go_ret
      exact ⟨rfl, Below.refl _ _⟩
    · have e1 : decide (len0 ≤ 1048576) = false := by simp; omega
      go_enter Trym.func9, Trym.ntmps9
      go_wp2_with fail
      refine (bytes20 a1 a0 len0 cap0 _ (by unfold maxLen; omega)).mono ?_
      rintro e w' ⟨rfl, rfl⟩
      go_wp2
      go_ret
      exact ⟨rfl, Below.refl _ _⟩
  · by_cases h0 : len0 = 0
    · subst h0
      have e1 : decide (0 ≤ 1048576) = true := by simp
      go_enter Trym.func9, Trym.ntmps9
      go_wp2_with fail
      refine (bytes20 a1 a0 0 cap0 _ (Nat.zero_le _)).mono ?_
      rintro e w' ⟨rfl, rfl⟩
      go_wp2
      go_ret
      exact ⟨rfl, Below.refl _ _⟩
    · rcases w0 with ⟨-, h, -, -⟩ | ⟨x, rfl, hl, hm, hz, hcell, hwz⟩
      · exact absurd h h0
      · obtain ⟨b, off, spot⟩ := x
        have hc := hcell 0 (by omega)
        have hspot : spot = none := by simpa [Addr.add] using World.cell?_spot hc
        subst hspot
        have b1 := wf_u32' w1
        obtain ⟨t, rfl⟩ := Int.eq_ofNat_of_zero_le b1.1
        refine law9_main t b off len0 cap0 z0 w (by omega) (by omega) (by omega) (cell_lt hc) (fun i hi => ?_) (fun i hi => ?_) (by omega)
        · have := hcell i (by omega)
          rw [addr_add] at this
          exact this
        · exact wf_u64 (hwz _ (getD_mem z0 i (by omega)))
end Go.Proofs.Qxb6001350aMods
