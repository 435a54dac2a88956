/-
  The proof of 'Rows.FnFitWithoutSizesIsTheMeanTimeSaid': the frame turned from the one that the guide's skeleton tool writes for a slice of integers; here the slice holds floats; the walk lies in Qxb6001350aModsLaw10.
-/
import Derived.Test.Qxb6001350aModsRows
import Derived.WalkKit
import Derived.ProofKit
import Derived.OpenShut
import Derived.ShutString
import Derived.ChangeOld
import Derived.Below
import Derived.Test.Qxb6001350aModsLaw10
namespace Go.Proofs.Qxb6001350aMods.fnFitWithoutSizesIsTheMeanTime
open Go.ChangeShapes Go.WideShapes Go.ChangeAt Go.RowKit
open Go.ChangeMaps (open_string shut_string)
set_option linter.unusedVariables false

theorem own : ownKnob Trym.prog.godebug = none := by kernel_rfl
theorem laidOut : laidOutB Trym.prog = true := by kernel_rfl

/-- WHAT THE WALK IS TOLD OF A SLICE OF FLOATS THAT CAME IN: it is nil; or its elements are the words 'xs'. -/
def IsRow (w : World) (a : Option Addr) (len cap : Nat) (xs : List Nat) : Prop :=
  (a = none ∧ len = 0 ∧ cap = 0 ∧ xs = []) ∨
  ∃ x, a = some x ∧ len ≤ cap ∧ cap ≤ maxLen ∧ xs.length = len ∧ ∀ i, i < len → w.cell? (x.add i) = some (.float .f64 (xs.getD i 0))

/-! ### OPENING A SLICE OF FLOATS -/
section
variable {H : Type} {enc : TypeId × Value → H} {P : Program} {w : World} {base : Nat} {spare : Nat → Bool} {held : Bool}
theorem trod_float {t : TypeId} {k : FloatKind} {fuel : Nat} {cs : List Value} {x : DataW H × List MemPlace} (ht : P.underlying t = some (.float k)) (h : DataW.trod enc P w base spare held fuel t cs = some x) :
    ∃ b, cs = [.float k b] := by
  cases fuel with
  | zero => simp [DataW.trod] at h
  | succ n =>
    unfold DataW.trod at h
    rw [ht] at h
    split at h <;> simp_all

theorem open_floats {t e : TypeId} {k : FloatKind} {fuel : Nat} {cs : List Value} {x : DataW H × List MemPlace} (ht : P.underlying t = some (.slice e)) (he : P.underlying e = some (.float k)) (hc : P.cellsOf e = 1)
    (h : DataW.trod enc P w base spare held fuel t cs = some x) :
    cs = [.slice none 0 0] ∨ ∃ (a : Addr) (len cap : Nat) (xs : List Nat), cs = [.slice (some a) len cap] ∧ len ≤ cap ∧ cap ≤ maxLen ∧ xs.length = len ∧ ∀ i, i < len → w.cell? (a.add i) = some (.float k (xs.getD i 0)) := by
  rcases DataW.trod_slice ht h with h0 | ⟨a, len, cap, elems, rest, n, _, rfl, rfl, hb, hl, hm, hlen, hel, hsp, hns⟩
  · exact .inl h0.1
  right
  have each : ∀ i, i < len → ∃ b, w.cell? (a.add i) = some (.float k b) := by
    intro i hi
    have hy := hel i hi
    rw [List.getElem?_eq_getElem (by omega), hc, Nat.mul_one, Option.bind_eq_some_iff] at hy
    obtain ⟨cs', hcs, hy'⟩ := hy
    obtain ⟨b, rfl⟩ := trod_float he hy'
    exact ⟨b, cell_of_cells?_one hcs⟩
  refine ⟨a, len, cap, (List.range len).map (fun i => match w.cell? (a.add i) with | some (.float _ b) => b | _ => 0), rfl, hl, hm, by simp, fun i hi => ?_⟩
  obtain ⟨b, hb'⟩ := each i hi
  simp [hi, hb']
end

theorem walk (a0 : Option Addr) (len0 cap0 : Nat) (z0 : List Nat) (w : World) (w0 : IsRow w a0 len0 cap0 z0) :
    Calls Trym.prog 10 #[.slice a0 len0 cap0] w fun e w' => e = .returned (.bool true) ∧ Below w.heap.size w w' := by
  exact law10 a0 len0 cap0 z0 w w0

/-! ### THE ROW's STEP: WRITTEN OUT: LEAVE IT -/
set_option maxRecDepth 100000 in
theorem lifted (os : Os) (started : os.Started) (H : Type) (enc : TypeId × Value → H) :
    ReturnsInHanded {} Trym.checked os 10 .any (Rows.fnFitWithoutSizesIsTheMeanTimeSpec.pre6 enc Trym.prog Trym.f10 Rows.fnFitWithoutSizesIsTheMeanTimeRow.domain false) (Rows.fnFitWithoutSizesIsTheMeanTimeSpec.post enc Trym.prog Trym.f10 false true false false) := by
  refine returnsInHanded_of_change (C := Trym.checked) own started (by kernel_rfl) Trym.func10
    (ChangeSpec.witness6 (enc := enc) (C := Trym.checked) false ⟨#[], #[.slice none 0 0], []⟩ 8 (by kernel_rfl) (by kernel_rfl) (by kernel_rfl) (by kernel_rfl)) ?_
  intro W base args ds gs before hval0 hW hcnd _
  have hval : ∀ (j : Nat) t v, Trym.f10.params[j]? = some t → args[j]? = some v → Value.okWide Trym.prog W .any base t v := hval0
  have hW' := hW
  obtain ⟨p, q, hA0, hV, rfl, hfz, hnd⟩ := hW
  have hA : DataW.TrodAll enc Trym.prog W 0 (fun _ => true) true Trym.f10.params.toList args.toList ds p := hA0
  rw [Trym.params10] at hA hval
  obtain ⟨v0, vs0, d0, ds0, p0, q0, hargs, rfl, rfl, h0, r0⟩ := trodAll_cons hA
  obtain ⟨rfl, rfl, rfl⟩ := trodAll_nil r0
  obtain rfl : args = #[v0] := by cases args; simp_all
  obtain ⟨rfl, rfl⟩ := trodVars_none hV
  obtain ⟨a0, len0, cap0, rfl⟩ := okWide_slice Trym.underlying24 (hval 0 24 v0 rfl rfl)
  have k0 := h0
  have lt0 : ∀ x ∈ p0, x.block < W.heap.size := by obtain ⟨m, hm⟩ := k0; exact DataW.trod_lt m _ _ _ hm
  obtain ⟨z0, w0⟩ : ∃ zs, IsRow W a0 len0 cap0 zs := by
    obtain ⟨fuel, hf⟩ := h0
    rcases open_floats Trym.underlying24 Trym.underlying25 (by kernel_rfl) hf with hcs | ⟨x, l, c, xs, hcs, hl, hm, hz, hcell⟩
    · simp [Value.cells] at hcs
      obtain ⟨rfl, rfl, rfl⟩ := hcs
      exact ⟨[], .inl ⟨rfl, rfl, rfl, rfl⟩⟩
    · simp [Value.cells] at hcs
      obtain ⟨rfl, rfl, rfl⟩ := hcs
      exact ⟨xs, .inr ⟨_, rfl, hl, hm, hz, hcell⟩⟩
  clear hA0 hval0
  refine (walk a0 len0 cap0 z0 W w0).mono fun e W' ⟨he, bel⟩ => ?_
  subst he
  exact ⟨_, rfl, _, _, _, [], _, [], hW', trodAll_mk1 (shut_bool Trym.underlying4 _), (trodAll_cons_mk (Below.trod laidOut (by kernel_rfl) (of_decide_eq_true (by kernel_rfl)) k0 bel lt0) trodAll_mk0), rfl, bel.frame _, fun h => by cases h⟩

theorem over : Rows.fnFitWithoutSizesIsTheMeanTimeRow.holds Trym.pinned (OpenSpec.ofChange Rows.fnFitWithoutSizesIsTheMeanTimeSpec) :=
  OpenClaim.holds_of_wide 10 Trym.f10 rfl rfl rfl rfl rfl rfl rfl ⟨rfl, rfl, rfl, rfl, rfl⟩ rfl rfl rfl rfl rfl (by kernel_rfl) Trym.func10 (by kernel_rfl)
    (of_decide_eq_true (by kernel_rfl)) (by unfold Func.isWrapper; first | (rw [if_pos (by decide +kernel)]; kernel_rfl) | (rw [if_neg (by decide +kernel)]; exact ⟨rfl, rfl⟩))
    (fun os started H enc _ => lifted os started H enc)

/-- ████ THE STATEMENT ████ -/
theorem proved : Rows.FnFitWithoutSizesIsTheMeanTimeSaid := over
#print axioms proved
end Go.Proofs.Qxb6001350aMods.fnFitWithoutSizesIsTheMeanTime
