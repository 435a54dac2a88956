/-
  fit: the walk.
-/
import Derived.Test.Qxb6001350aModsMean
import Derived.Test.Qxb6001350aModsZResid
namespace Go.Proofs.Qxb6001350aMods
open Go.RowKit Fl
attribute [local go_sem] run_fadd run_fsub run_fmul run_fdiv alloc_drewN setCell_drewN run_store_float build46

/-- the sum of 'f r' over the rows -/
def accA (f : Nat × Nat → Option Nat) (rows : List (Nat × Nat)) : Option Nat := rows.foldl (fun a r => addA a (f r)) (some 0)
theorem accA_snoc (f : Nat × Nat → Option Nat) (rows : List (Nat × Nat)) (r : Nat × Nat) : accA f (rows ++ [r]) = addA (accA f rows) (f r) := by
  unfold accA; rw [List.foldl_append]; rfl
def smA (rows : List (Nat × Nat)) : Option Nat := meanA (rows.map fun r => F r.1)
def tmA (rows : List (Nat × Nat)) : Option Nat := meanA (rows.map fun r => r.2)
def gsF (sm : Option Nat) (r : Nat × Nat) : Option Nat := mulA (subA (some (F r.1)) sm) (subA (some (F r.1)) sm)
def gpF (sm tm : Option Nat) (r : Nat × Nat) : Option Nat := mulA (subA (some (F r.1)) sm) (subA (some r.2) tm)
def sqF (r : Nat × Nat) : Option Nat := mulA (some (F r.1)) (some (F r.1))
def prF (r : Nat × Nat) : Option Nat := mulA (some (F r.1)) (some r.2)

theorem row_next' {α : Type} (C : α → Value) (f : Nat → α) (d : α) {w : World} {B n m : Nat} {t : TypeId} {x : α} (hx : x = f m) (h : w.rowIs B t n (fun i => C (if i < m then f i else d))) :
    (w.setCell ⟨B, m, none⟩ (C x)).rowIs B t n (fun i => C (if i < m + 1 then f i else d)) := by
  refine (h.set m _).congr fun i _ => ?_
  by_cases h1 : i = m
  · subst h1; rw [if_pos rfl, if_pos (by omega), hx]
  · rw [if_neg h1]
    by_cases h2 : i < m
    · rw [if_pos h2, if_pos (by omega)]
    · rw [if_neg h2, if_neg (by omega)]

theorem getD_rows (f : Nat × Nat → Nat) (rows : List (Nat × Nat)) (i : Nat) (h : i < rows.length) : (rows.map f).getD i 0 = f (rows.getD i (0, 0)) := by
  simp [h]

/-- WHAT fit COMES TO, in the three ways on which it returns. -/
def FitsTo (rows : List (Nat × Nat)) (cA pA : Option Nat) : Prop :=
  (∃ gs gp sm tm pu q c, accA (gsF (smA rows)) rows = some gs ∧ accA (gpF (smA rows) (tmA rows)) rows = some gp ∧ smA rows = some sm ∧ tmA rows = some tm ∧
      Ieee.double.order gs 0 = some .gt ∧ Ieee.double.div gp gs = some pu ∧ Ieee.double.mul pu sm = some q ∧ Ieee.double.sub tm q = some c ∧
      (Ieee.double.order c 0 = some .gt ∨ Ieee.double.order c 0 = some .eq) ∧ (Ieee.double.order pu 0 = some .gt ∨ Ieee.double.order pu 0 = some .eq) ∧ cA = some c ∧ pA = some pu) ∨
  (ordA (accA (gsF (smA rows)) rows) (some 0) ≠ some .gt ∧ ordA (accA sqF rows) (some 0) ≠ some .gt ∧ cA = tmA rows ∧ pA = some 0) ∨
  (∃ pr sq tm q r1 r2, ordA (accA (gsF (smA rows)) rows) (some 0) ≠ some .gt ∧ accA sqF rows = some sq ∧ Ieee.double.order sq 0 = some .gt ∧ accA prF rows = some pr ∧ tmA rows = some tm ∧
      Ieee.double.div pr sq = some q ∧ residA (some 0) (some q) rows = some r1 ∧ residA (some tm) (some 0) rows = some r2 ∧ Ieee.double.order r1 r2 ≠ some .lt ∧ cA = some tm ∧ pA = some 0)

theorem fval_some (v n : Nat) : fval (some v) n = v := rfl
theorem fcnt_some (v : Nat) : fcnt (some v) = 0 := rfl
attribute [local go_sem] fval_some fcnt_some World.drewN_zero
theorem geq_true {o : Option Ordering} (h : o = some .gt ∨ o = some .eq) : (o == some Ordering.gt || o == some Ordering.eq) = true := by
  rcases h with rfl | rfl <;> rfl
theorem gt_false {o : Option Ordering} (h : o ≠ some .gt) : (o == some Ordering.gt) = false := by simpa using h
theorem lt_false {o : Option Ordering} (h : o ≠ some .lt) : (o == some Ordering.lt) = false := by simpa using h

theorem info25' : (Trym.prog.info? 25).map (fun i => (i.zero, i.size, i.bytes)) = some (some (.float .f64 0), 1, 8) := by kernel_rfl

set_option maxHeartbeats 1000000 in
theorem fit_any (g n cap : Nat) (rows : List (Nat × Nat)) (w : World) (hl : rows.length = n) (h0 : 0 < n) (hn : n ≤ 65536) (hr : RowsAt w g rows) (cA pA : Option Nat) (hfit : FitsTo rows cA pA) :
    Calls Trym.prog 25 #[.slice (some ⟨g, 0, none⟩) n cap] w fun e w' => ∃ c p, e = .returned (.agg #[.float .f64 c, .float .f64 p]) ∧ Opt cA c ∧ Opt pA p ∧ Below w.heap.size w w' := by
  obtain ⟨hg, hrow⟩ := hr
  have HL : Hid (rows.length = n) := hl
  have HR : Hid (∀ i, i < n → w.cell? ⟨g, i * 2, none⟩ = some (.int .u64 (rows.getD i (0, 0)).1) ∧ w.cell? ⟨g, i * 2 + 1, none⟩ = some (.float .f64 (rows.getD i (0, 0)).2)) := by rw [← hl]; exact hrow
  have HF : Hid (FitsTo rows cA pA) := hfit
  clear hl hrow hfit
  have hmk := fun w => run_make_row' (P := Trym.prog) 24 25 (.float .f64 0) 8 Trym.underlying24 info25' rfl .i64 .i64 n (by omega) (by omega) w
  go_enter Trym.func25, Trym.ntmps25
  go_wp2
  go_loopw [28] (fun i wr => ∃ m : Nat, m ≤ n ∧ i = .int .i64 m ∧ Below w.heap.size w wr ∧ wr.rowIs w.heap.size 46 2 (fun _ => .float .f64 0) ∧
      wr.rowIs (w.heap.size + 1) 25 n (fun i => .float .f64 (if i < m then F (rows.getD i (0, 0)).1 else 0)) ∧ wr.rowIs (w.heap.size + 2) 25 n (fun i => .float .f64 (if i < m then (rows.getD i (0, 0)).2 else 0)))
    (fun i _ => n - (intOf i).toNat)
  case atStart =>
    refine ⟨0, Nat.zero_le _, rfl, ?_, ?_, ?_, ?_⟩
    · exact (((Below.refl _ _).alloc (Nat.le_refl _) _).alloc (by simp) _).alloc (by simp; omega) _
    · refine ((World.rowIs_alloc w #[.float .f64 0, .float .f64 0] 46 (fun _ => .float .f64 0) ?_).alloc _).alloc _
      intro i hi
      match i, hi with
      | 0, _ => rfl
      | 1, _ => rfl
    · have h := (World.rowIs_made (w.alloc (.cells #[.float .f64 0, .float .f64 0] 46)) (.float .f64 0) n 25).alloc (.cells (madeCells #[.float .f64 0] n) 25)
      simpa using h
    · have h := (World.rowIs_made ((w.alloc (.cells #[.float .f64 0, .float .f64 0] 46)).alloc (.cells (madeCells #[.float .f64 0] n) 25)) (.float .f64 0) n 25)
      simpa using h
  case round =>
    obtain ⟨m, hm, rfl, hbel, hr0, hr1, hr2⟩ := hrel
    have hs2 : w.heap.size + 2 < wr.heap.size := hr2.lt
    by_cases hlt : m < n
    · obtain ⟨sz, esz⟩ : ∃ x, x = (rows.getD m (0, 0)).1 := ⟨_, rfl⟩
      obtain ⟨tm, etm⟩ : ∃ x, x = (rows.getD m (0, 0)).2 := ⟨_, rfl⟩
      have hc0 : wr.cell? ⟨g, m * 2, none⟩ = some (.int .u64 sz) := by rw [esz, ← (HR.out m hlt).1]; exact hbel.cell hg
      have hc1 : wr.cell? ⟨g, m * 2 + 1, none⟩ = some (.float .f64 tm) := by rw [etm, ← (HR.out m hlt).2]; exact hbel.cell hg
      have ES : Hid (sz = (rows.getD m (0, 0)).1) := esz
      have ET : Hid (tm = (rows.getD m (0, 0)).2) := etm
      clear esz etm
      have s1 := hr1.cell hlt
      have s2 := hr2.cell hlt
      have f1 := hr1.frozen m
      have f2 := hr2.frozen m
      have hs1 : w.heap.size + 1 < wr.heap.size := by omega
      have hs3 : w.heap.size + 1 + 1 < wr.heap.size := by omega
      go_wp2
      go_region
      go_wp2
      go_roundw
      case rel =>
        refine ⟨m + 1, by omega, by go_num, ?_, ?_, ?_, ?_⟩
        · exact (((hbel.setCell (by simp) _).setCell (by simp; omega) _).alloc (by simp; omega) _).drew
        · exact (((hr0.setOther (by simp) _).setOther (by simp; omega) _).alloc _).drew
        · exact (((row_next' (Value.float .f64) (fun i => F (rows.getD i (0, 0)).1) 0 (by rw [ES.out]; rfl) hr1).setOther (by simp) _).alloc _).drew
        · exact ((row_next' (Value.float .f64) (fun i => (rows.getD i (0, 0)).2) 0 (by rw [ET.out]) (hr2.setOther (by simp) _)).alloc _).drew
      case measure => simp [intOf]; omega
    · have hmn : m = n := by omega
      subst hmn
      have HX : Hid (∀ i, i < m → wr.cell? ⟨w.heap.size + 1, i, none⟩ = some (.float .f64 ((rows.map fun r => F r.1).getD i 0))) := fun i hi => by
        rw [hr1.cell hi, if_pos hi, getD_rows _ _ _ (by have := HL.out; omega)]
      have HT : Hid (∀ i, i < m → wr.cell? ⟨w.heap.size + 1 + 1, i, none⟩ = some (.float .f64 ((rows.map fun r => r.2).getD i 0))) := fun i hi => by
        have h := hr2.cell hi
        rw [if_pos hi] at h
        rw [getD_rows _ _ _ (by have := HL.out; omega)]; exact h
      have HX' : Hid (∀ i, i < m → wr.cell? ⟨w.heap.size + 1, i, none⟩ = some (.float .f64 (F (rows.getD i (0, 0)).1))) := fun i hi => by
        rw [hr1.cell hi, if_pos hi]
      have HT' : Hid (∀ i, i < m → wr.cell? ⟨w.heap.size + 1 + 1, i, none⟩ = some (.float .f64 (rows.getD i (0, 0)).2)) := fun i hi => by
        have h := hr2.cell hi
        rw [if_pos hi] at h
        exact h
      clear hmk
      go_wp2_with fail
      refine (mean_any (w.heap.size + 1) m m (rows.map fun r => F r.1) _ (by simpa using HL.out) (by unfold maxLen; omega) HX.out).mono ?_
      rintro e w1 ⟨sm, rfl, hsm, k1, rfl⟩
      have HSM : Hid (Opt (smA rows) sm) := hsm
      clear hsm
      go_wp2_with fail
      refine (mean_any (w.heap.size + 1 + 1) m m (rows.map fun r => r.2) _ (by simpa using HL.out) (by unfold maxLen; omega) HT.out).mono ?_
      rintro e w1 ⟨tm, rfl, htm, k2, rfl⟩
      have HTM : Hid (Opt (tmA rows) tm) := htm
      clear htm
      go_wp2
      go_loopw [9, 10, 11, 12, 51] (fun gs gp sq pr i w2 => ∃ k : Nat, k ≤ m ∧ i = .int .i64 k ∧ (∃ d, w2 = wr.drewN d) ∧ ∃ v1 v2 v3 v4, gs = .float .f64 v1 ∧ gp = .float .f64 v2 ∧ sq = .float .f64 v3 ∧ pr = .float .f64 v4 ∧
          Opt (accA (gsF (smA rows)) (rows.take k)) v1 ∧ Opt (accA (gpF (smA rows) (tmA rows)) (rows.take k)) v2 ∧ Opt (accA sqF (rows.take k)) v3 ∧ Opt (accA prF (rows.take k)) v4) (fun _ _ _ _ i _ => m - (intOf i).toNat)
      case atStart => exact ⟨0, Nat.zero_le _, rfl, ⟨_, rfl⟩, 0, 0, 0, 0, rfl, rfl, rfl, rfl, rfl, rfl, rfl, rfl⟩
      case round =>
        obtain ⟨k, hk, rfl, ⟨d, rfl⟩, v1, v2, v3, v4, rfl, rfl, rfl, rfl, hv1, hv2, hv3, hv4⟩ := hrel
        have HV1 : Hid (Opt (accA (gsF (smA rows)) (rows.take k)) v1) := hv1
        have HV2 : Hid (Opt (accA (gpF (smA rows) (tmA rows)) (rows.take k)) v2) := hv2
        have HV3 : Hid (Opt (accA sqF (rows.take k)) v3) := hv3
        have HV4 : Hid (Opt (accA prF (rows.take k)) v4) := hv4
        clear hv1 hv2 hv3 hv4
        by_cases hlt : k < m
        · obtain ⟨x, ex⟩ : ∃ x, x = F (rows.getD k (0, 0)).1 := ⟨_, rfl⟩
          obtain ⟨t, et⟩ : ∃ x, x = (rows.getD k (0, 0)).2 := ⟨_, rfl⟩
          have hcx : wr.cell? ⟨w.heap.size + 1, k, none⟩ = some (.float .f64 x) := by rw [ex]; exact HX'.out k hlt
          have hct : wr.cell? ⟨w.heap.size + 1 + 1, k, none⟩ = some (.float .f64 t) := by rw [et]; exact HT'.out k hlt
          have EX : Hid (x = F (rows.getD k (0, 0)).1) := ex
          have ET : Hid (t = (rows.getD k (0, 0)).2) := et
          clear ex et
          go_wp2
          go_roundw
          case rel =>
            refine ⟨k + 1, by omega, by go_num, ⟨_, rfl⟩, _, _, _, _, rfl, rfl, rfl, rfl, ?_⟩
            rw [take_snoc2 rows k (by have := HL.out; omega), accA_snoc, accA_snoc, accA_snoc, accA_snoc]
            unfold gsF gpF sqF prF
            rw [← EX.out, ← ET.out]
            refine ⟨?_, ?_, ?_, ?_⟩
            · exact opt_add HV1.out (opt_mul (opt_sub (opt_some _) HSM.out _) (opt_sub (opt_some _) HSM.out _) _) _
            · exact opt_add HV2.out (opt_mul (opt_sub (opt_some _) HSM.out _) (opt_sub (opt_some _) HTM.out _) _) _
            · exact opt_add HV3.out (opt_mul (opt_some _) (opt_some _) _) _
            · exact opt_add HV4.out (opt_mul (opt_some _) (opt_some _) _) _
          case measure => simp [intOf]; omega
        · have e : rows.take k = rows := List.take_of_length_le (by have := HL.out; omega)
          have h1 := HV1.out
          have h2 := HV2.out
          have h3 := HV3.out
          have h4 := HV4.out
          rw [e] at h1 h2 h3 h4
          have hs0 : w.heap.size < wr.heap.size := hr0.lt
          have p0 := hr0.cell (i := 0) (by omega)
          have p1 := hr0.cell (i := 1) (by omega)
          have q0 := hr0.frozen 0
          have q1 := hr0.frozen 1
          rcases HF.out with ⟨gs, gp, sm', tm', pu, q, v0, a1, a2, a3, a4, a5, a6, a7, a8, a9, a10, rfl, rfl⟩ | ⟨b1, b2, rfl, rfl⟩ | ⟨pr, sq, tm', q, r1, r2, c1, c2, c3, c4, c5, c6, c7, c8, c9, rfl, rfl⟩
          · rw [a1] at h1
            rw [a2] at h2
            have h5 := HSM.out
            have h6 := HTM.out
            rw [a3] at h5
            rw [a4] at h6
            obtain rfl : v1 = gs := h1
            obtain rfl : v2 = gp := h2
            obtain rfl : sm = sm' := h5
            obtain rfl : tm = tm' := h6
            have o1 : (FloatKind.f64.format.order v1 0 == some Ordering.gt) = true := by
              have : FloatKind.f64.format.order v1 0 = some Ordering.gt := a5
              rw [this]; rfl
            have o2 : (FloatKind.f64.format.order v0 0 == some Ordering.gt || FloatKind.f64.format.order v0 0 == some Ordering.eq) = true := geq_true a9
            have o3 : (FloatKind.f64.format.order pu 0 == some Ordering.gt || FloatKind.f64.format.order pu 0 == some Ordering.eq) = true := geq_true a10
            clear a1 a2 a3 a4 a5 a9 a10 h3 h4 e
            go_wp2
            refine bodyPost_ret (v := .agg #[.float .f64 v0, .float .f64 pu]) (by simp [results, Trym.results25, go_sem, p0, p1, hs0]) rfl ⟨v0, pu, rfl, rfl, rfl, ?_⟩
            exact below_drewN (((hbel.setCell (Nat.le_refl _) _).setCell (Nat.le_refl _) _).alloc (by simp; omega) _) _
          · have o1 : (FloatKind.f64.format.order v1 0 == some Ordering.gt) = false := by
              have : FloatKind.f64.format.order v1 0 = _ := opt_ord h1 (opt_some 0)
              rw [this]; exact gt_false b1
            have o2 : (FloatKind.f64.format.order v3 0 == some Ordering.gt) = false := by
              have : FloatKind.f64.format.order v3 0 = _ := opt_ord h3 (opt_some 0)
              rw [this]; exact gt_false b2
            clear h1 h2 h3 h4 b1 b2 e
            go_wp2
            refine bodyPost_ret (v := .agg #[.float .f64 tm, .float .f64 0]) (by simp [results, Trym.results25, go_sem, p0, p1, hs0]) rfl ⟨tm, 0, rfl, HTM.out, rfl, ?_⟩
            exact below_drewN (((hbel.setCell (Nat.le_refl _) _).setCell (Nat.le_refl _) _).alloc (by simp; omega) _) _
          · have h6 := HTM.out
            rw [c5] at h6
            rw [c2] at h3
            rw [c4] at h4
            obtain rfl : v3 = sq := h3
            obtain rfl : v4 = pr := h4
            obtain rfl : tm = tm' := h6
            have o1 : (FloatKind.f64.format.order v1 0 == some Ordering.gt) = false := by
              have : FloatKind.f64.format.order v1 0 = _ := opt_ord h1 (opt_some 0)
              rw [this]; exact gt_false c1
            have o2 : (FloatKind.f64.format.order v3 0 == some Ordering.gt) = true := by
              have : FloatKind.f64.format.order v3 0 = some Ordering.gt := c3
              rw [this]; rfl
            have o3 : (FloatKind.f64.format.order r1 r2 == some Ordering.lt) = false := lt_false c9
            obtain ⟨W, eW⟩ : ∃ W, W = ((wr.alloc (.cells #[.float .f64 tm, .float .f64 0] 46)).alloc (.cells #[.float .f64 0, .float .f64 q] 46)).drewN d := ⟨_, rfl⟩
            have hWs : W.heap.size = wr.heap.size + 2 := by rw [eW]; simp
            have bW : Below wr.heap.size wr W := by rw [eW]; exact below_drewN (((Below.refl _ _).alloc (Nat.le_refl _) _).alloc (by simp) _) _
            have rW : RowsAt W g rows := ⟨by omega, fun i hi => by
              have h := HR.out i (by have := HL.out; omega)
              exact ⟨((hbel.trans (bW.mono (by omega))).cell (p := ⟨g, i * 2, none⟩) hg).trans h.1, ((hbel.trans (bW.mono (by omega))).cell (p := ⟨g, i * 2 + 1, none⟩) hg).trans h.2⟩⟩
            have m0 : W.cell? ⟨wr.heap.size, 0, none⟩ = some (.float .f64 tm) := by rw [eW]; simp [go_sem]
            have m1 : W.cell? ⟨wr.heap.size, 1, none⟩ = some (.float .f64 0) := by rw [eW]; simp [go_sem]
            have m2 : W.cell? ⟨wr.heap.size + 1, 0, none⟩ = some (.float .f64 0) := by rw [eW]; simp [go_sem]
            have m3 : W.cell? ⟨wr.heap.size + 1, 1, none⟩ = some (.float .f64 q) := by rw [eW]; simp [go_sem]
            have HA : Hid (∀ W', Below W.heap.size W W' → Calls Trym.prog 23 #[.agg #[.float .f64 0, .float .f64 q], .slice (some ⟨g, 0, none⟩) m cap] W' fun e w' => e = .returned (.float .f64 r1) ∧ Below W'.heap.size W' w') := by
              intro W' hW
              have h := residual_any 0 q g m cap (some 0) (some q) rows W' rfl rfl HL.out hn ⟨by have := hW.size; have := rW.1; omega, fun i hi => ⟨(hW.cell (p := ⟨g, i * 2, none⟩) rW.1).trans (rW.2 i hi).1, (hW.cell (p := ⟨g, i * 2 + 1, none⟩) rW.1).trans (rW.2 i hi).2⟩⟩
              rw [c7] at h
              refine h.mono ?_
              rintro e w' ⟨r, rfl, hr, hb⟩
              obtain rfl : r = r1 := hr
              exact ⟨rfl, hb⟩
            have HB : Hid (∀ W', Below W.heap.size W W' → Calls Trym.prog 23 #[.agg #[.float .f64 tm, .float .f64 0], .slice (some ⟨g, 0, none⟩) m cap] W' fun e w' => e = .returned (.float .f64 r2) ∧ Below W'.heap.size W' w') := by
              intro W' hW
              have h := residual_any tm 0 g m cap (some tm) (some 0) rows W' rfl rfl HL.out hn ⟨by have := hW.size; have := rW.1; omega, fun i hi => ⟨(hW.cell (p := ⟨g, i * 2, none⟩) rW.1).trans (rW.2 i hi).1, (hW.cell (p := ⟨g, i * 2 + 1, none⟩) rW.1).trans (rW.2 i hi).2⟩⟩
              rw [c8] at h
              refine h.mono ?_
              rintro e w' ⟨r, rfl, hr, hb⟩
              obtain rfl : r = r2 := hr
              exact ⟨rfl, hb⟩
            have p0' : W.cell? ⟨w.heap.size, 0, none⟩ = some (.float .f64 0) := (bW.cell (p := ⟨w.heap.size, 0, none⟩) hs0).trans p0
            have p1' : W.cell? ⟨w.heap.size, 1, none⟩ = some (.float .f64 0) := (bW.cell (p := ⟨w.heap.size, 1, none⟩) hs0).trans p1
            have q0' : W.frozen? ⟨w.heap.size, 0, none⟩ = false := (bW.frozen (p := ⟨w.heap.size, 0, none⟩) hs0).trans q0
            have q1' : W.frozen? ⟨w.heap.size, 1, none⟩ = false := (bW.frozen (p := ⟨w.heap.size, 1, none⟩) hs0).trans q1
            clear h1 h2 c1 c2 c3 c4 c5 c7 c8 c9 e rW
            have HS : Hid (W.heap.size = wr.heap.size + 2) := hWs
            clear hWs
            go_wp2
            rw [← eW]
            clear eW
            go_region_with (first
              | (go_at_call_of 23 (Value.agg #[Value.float FloatKind.f64 0, Value.float FloatKind.f64 q]); refine (HA.out _ ?_).mono ?_; exact (Below.refl _ _).drew; rintro e w1 ⟨rfl, hb1⟩; have k0 := (hb1.cell (p := ⟨wr.heap.size, 0, none⟩) (by have := HS.out; show wr.heap.size < W.heap.size; omega)).trans m0; have k1 := (hb1.cell (p := ⟨wr.heap.size, 1, none⟩) (by have := HS.out; show wr.heap.size < W.heap.size; omega)).trans m1)
              | (go_at_call_of 23 (Value.agg #[Value.float FloatKind.f64 tm, Value.float FloatKind.f64 0]); refine (HB.out _ ?_).mono ?_; exact (Below.refl _ _).drew.trans hb1; rintro e w2 ⟨rfl, hb2⟩))
            all_goals
              have sW := HS.out
              have bb : Below W.heap.size W w2 := ((Below.refl _ _).drew.trans hb1).trans (hb2.mono hb1.size)
              have z0 : w2.cell? ⟨wr.heap.size, 0, none⟩ = some (.float .f64 tm) := (bb.cell (p := ⟨wr.heap.size, 0, none⟩) (by show wr.heap.size < W.heap.size; omega)).trans m0
              have z1 : w2.cell? ⟨wr.heap.size, 1, none⟩ = some (.float .f64 0) := (bb.cell (p := ⟨wr.heap.size, 1, none⟩) (by show wr.heap.size < W.heap.size; omega)).trans m1
              have z2 : w2.cell? ⟨w.heap.size, 0, none⟩ = some (.float .f64 0) := (bb.cell (p := ⟨w.heap.size, 0, none⟩) (by show w.heap.size < W.heap.size; omega)).trans p0'
              have z3 : w2.cell? ⟨w.heap.size, 1, none⟩ = some (.float .f64 0) := (bb.cell (p := ⟨w.heap.size, 1, none⟩) (by show w.heap.size < W.heap.size; omega)).trans p1'
              have z4 : w2.frozen? ⟨w.heap.size, 0, none⟩ = false := (bb.frozen (p := ⟨w.heap.size, 0, none⟩) (by show w.heap.size < W.heap.size; omega)).trans q0'
              have z5 : w2.frozen? ⟨w.heap.size, 1, none⟩ = false := (bb.frozen (p := ⟨w.heap.size, 1, none⟩) (by show w.heap.size < W.heap.size; omega)).trans q1'
              have bz : Below w.heap.size w w2 := (hbel.trans (bW.mono (by omega))).trans (bb.mono (by omega))
              clear k0 k1 m0 m1 m2 m3 p0 p1 q0 q1 p0' p1' q0' q1' hb1 hb2 bb bW sW
              go_wp2
              refine bodyPost_ret (v := .agg #[.float .f64 tm, .float .f64 0]) (by simp [results, Trym.results25, go_sem, z2, z3]) rfl ⟨tm, 0, rfl, rfl, rfl, ?_⟩
              exact (bz.setCell (Nat.le_refl _) _).setCell (Nat.le_refl _) _
end Go.Proofs.Qxb6001350aMods
