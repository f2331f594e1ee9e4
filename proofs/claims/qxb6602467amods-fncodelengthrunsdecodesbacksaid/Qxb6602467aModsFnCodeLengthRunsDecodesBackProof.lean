/-
  'Rows.FnCodeLengthRunsDecodesBackSaid' proved. The frame after the kit's shell for a law over slices; the first argument, a slice of two-field structs, is opened by 'open_slice_pairs'.
-/
import Derived.Test.Qxb6602467aModsRows
import Derived.Test.Qxb6602467aModsMain
import Derived.WalkKit
import Derived.ProofKit
import Derived.OpenShut
import Derived.ShutString
import Derived.ChangeOld
import Derived.Below
import Derived.Deep.SlicePairs
namespace Go.Proofs.Qxb6602467aMods.fnCodeLengthRunsDecodesBack
open Go.ChangeShapes Go.WideShapes Go.ChangeAt Go.RowKit
set_option linter.unusedVariables false

theorem own : ownKnob Trym.prog.godebug = none := by kernel_rfl
theorem laidOut : laidOutB Trym.prog = true := by kernel_rfl

theorem getD_nonneg (l : List Int) (h : ∀ n ∈ l, 0 ≤ n) (j : Nat) : 0 ≤ l.getD j 0 := by
  by_cases hj : j < l.length
  · have e : l.getD j 0 = l[j] := by simp [List.getD, hj]
    rw [e]
    exact h _ (List.getElem_mem hj)
  · have e : l.getD j 0 = 0 := by simp [List.getD, hj]
    omega

set_option maxRecDepth 100000 in
theorem lifted (os : Os) (started : os.Started) (H : Type) (enc : TypeId × Value → H) :
    ReturnsInHanded {} Trym.checked os 5 .any (Rows.fnCodeLengthRunsDecodesBackSpec.pre6 enc Trym.prog Trym.f5 Rows.fnCodeLengthRunsDecodesBackRow.domain false) (Rows.fnCodeLengthRunsDecodesBackSpec.post enc Trym.prog Trym.f5 false true false false) := by
  refine returnsInHanded_of_change (C := Trym.checked) own started (by kernel_rfl) Trym.func5
    (ChangeSpec.witness6 (enc := enc) (C := Trym.checked) false ⟨#[], #[.slice none 0 0, .slice none 0 0], []⟩ 8 (by kernel_rfl) (by kernel_rfl) (by kernel_rfl) (by kernel_rfl)) ?_
  intro W base args ds gs before hval0 hW hcnd _
  have hval : ∀ (j : Nat) t v, Trym.f5.params[j]? = some t → args[j]? = some v → Value.okWide Trym.prog W .any base t v := hval0
  have hW' := hW
  obtain ⟨p, q, hA0, hV, rfl, hfz, hnd⟩ := hW
  have hA : DataW.TrodAll enc Trym.prog W 0 (fun _ => true) true Trym.f5.params.toList args.toList ds p := hA0
  rw [Trym.params5] at hA hval
  obtain ⟨v0, vs0, d0, ds0, p0, q0, hargs, rfl, rfl, h0, r0⟩ := trodAll_cons hA
  obtain ⟨v1, vs1, d1, ds1, p1, q1, rfl, rfl, rfl, h1, r1⟩ := trodAll_cons r0
  obtain ⟨rfl, rfl, rfl⟩ := trodAll_nil r1
  obtain rfl : args = #[v0, v1] := by cases args; simp_all
  obtain ⟨rfl, rfl⟩ := trodVars_none hV
  obtain ⟨a0, len0, cap0, rfl⟩ := okWide_slice Trym.underlying25 (hval 0 25 v0 rfl rfl)
  obtain ⟨a1, len1, cap1, rfl⟩ := okWide_slice Trym.underlying22 (hval 1 22 v1 rfl rfl)
  have k0 := h0
  have k1 := h1
  have lt0 : ∀ x ∈ p0, x.block < W.heap.size := by obtain ⟨m, hm⟩ := k0; exact DataW.trod_lt m _ _ _ hm
  have lt1 : ∀ x ∈ p1, x.block < W.heap.size := by obtain ⟨m, hm⟩ := k1; exact DataW.trod_lt m _ _ _ hm
  obtain ⟨rs, P0, C0, M0⟩ : ∃ rs, Pairs W a0 len0 rs ∧ (a0 = none → cap0 = 0) ∧ len0 ≤ 9223372036854775807 := by
    obtain ⟨fuel, hf⟩ := h0
    rcases Go.Deep.open_slice_pairs Trym.underlying25 Trym.underlying38 (by kernel_rfl) rfl rfl (by kernel_rfl) (by kernel_rfl) hf with ⟨hcs, _⟩ | ⟨x, l, c, m, n, V0, V1, D0, D1, Q0, Q1, hcs, _, hl, hm, hmm, _, hx⟩
    · simp [Value.cells] at hcs
      obtain ⟨rfl, rfl, rfl⟩ := hcs
      exact ⟨[], ⟨rfl, fun _ => rfl, fun _ h => by cases h⟩, fun _ => rfl, by omega⟩
    · simp [Value.cells] at hcs
      obtain ⟨rfl, rfl, rfl⟩ := hcs
      unfold maxLen at hm
      have hlm : len0 ≤ m := by rw [hmm]; split <;> omega
      refine ⟨(List.range len0).map fun i => (intOf (V0 i), intOf (V1 i)), ⟨by simp, (fun h => by cases h), fun y hy i hi => ?_⟩, (fun h => by cases h), by omega⟩
      cases hy
      obtain ⟨c0, c1, t0, t1⟩ := hx i (by omega)
      obtain ⟨x0, e0, _, _⟩ := DataW.trod_int Trym.underlying5 t0
      obtain ⟨x1, e1, _, _⟩ := DataW.trod_int Trym.underlying5 t1
      simp at e0 e1
      have hg : ((List.range len0).map fun i => (intOf (V0 i), intOf (V1 i))).getD i (0, 0) = (x0, x1) := by
        simp [List.getD, hi, e0, e1, intOf]
      rw [hg, c0, c1, e0, e1]
      exact ⟨rfl, rfl⟩
  obtain ⟨ls, B1, C1, M1, L1⟩ : ∃ ls, Bytes W a1 len1 ls ∧ (a1 = none → cap1 = 0) ∧ len1 ≤ 9223372036854775807 ∧ ∀ j, 0 ≤ ls.getD j 0 := by
    obtain ⟨fuel, hf⟩ := h1
    rcases open_ints Trym.underlying22 Trym.underlying5 (by kernel_rfl) hf with ⟨hcs, _⟩ | ⟨x, l, c, zs, hcs, _, hl, hm, hz, _, hcell, hwz⟩
    · simp [Value.cells] at hcs
      obtain ⟨rfl, rfl, rfl⟩ := hcs
      exact ⟨[], ⟨rfl, fun _ => rfl, fun _ h => by cases h⟩, fun _ => rfl, by omega, fun j => by simp⟩
    · simp [Value.cells] at hcs
      obtain ⟨rfl, rfl, rfl⟩ := hcs
      have hz' : zs.length = cap1 := by simpa using hz
      unfold maxLen at hm
      refine ⟨zs.take len1, ⟨by simp; omega, (fun h => by cases h), fun y hy i hi => ?_⟩, (fun h => by cases h), by omega, fun j => ?_⟩
      · cases hy
        rw [hcell i (by omega)]
        simp [List.getD, hi]
      · exact getD_nonneg _ (fun n hn => (bounds_u8 (hwz n (List.mem_of_mem_take hn))).1) j
  clear hA0 hval0
  refine (main_walk a0 a1 len0 cap0 len1 cap1 rs ls W P0 B1 C0 C1 M0 M1 L1).mono fun e W' ⟨he, bel⟩ => ?_
  subst he
  exact ⟨_, rfl, _, _, _, [], _, [], hW', trodAll_mk1 (shut_bool Trym.underlying4 _), (trodAll_cons_mk (Below.trod laidOut (by kernel_rfl) (of_decide_eq_true (by kernel_rfl)) k0 bel lt0) (trodAll_cons_mk (Below.trod laidOut (by kernel_rfl) (of_decide_eq_true (by kernel_rfl)) k1 bel lt1) trodAll_mk0)), rfl, bel.frame _, fun h => by cases h⟩

theorem over : Rows.fnCodeLengthRunsDecodesBackRow.holds Trym.pinned (OpenSpec.ofChange Rows.fnCodeLengthRunsDecodesBackSpec) :=
  OpenClaim.holds_of_wide 5 Trym.f5 rfl rfl rfl rfl rfl rfl rfl ⟨rfl, rfl, rfl, rfl, rfl⟩ rfl rfl rfl rfl rfl (by kernel_rfl) Trym.func5 (by kernel_rfl)
    (of_decide_eq_true (by kernel_rfl)) (by unfold Func.isWrapper; first | (rw [if_pos (by decide +kernel)]; kernel_rfl) | (rw [if_neg (by decide +kernel)]; exact ⟨rfl, rfl⟩))
    (fun os started H enc _ => lifted os started H enc)

/-- THE STATEMENT -/
theorem proved : Rows.FnCodeLengthRunsDecodesBackSaid := over
#print axioms proved
end Go.Proofs.Qxb6602467aMods.fnCodeLengthRunsDecodesBack
