/-
  'Rows.FnRunPartsNameAlphabetSaid' proved. The frame is the kit's shell at this function; the walk is filled.
-/
import Derived.Test.Qxb6602620aModsRows
import Derived.Test.Qxb6602620aModsAlpha
import Derived.WalkKit
import Derived.ProofKit
import Derived.OpenShut
import Derived.ShutString
namespace Go.Proofs.Qxb6602620aMods.fnRunPartsNameAlphabet
open Go.ChangeShapes Go.WideShapes Go.ChangeAt Go.RowKit
open Go.ChangeMaps (open_string shut_string)
set_option linter.unusedVariables false      -- a walk need not use every 'w<i>' (that an integer argument fits its kind)

theorem own : ownKnob Trym.prog.godebug = none := by kernel_rfl

/-! ### STEP 1: THE WALK: the Go text returns true. 'Grown w w'': the world has at most new blocks (Derived/RowKit3.lean). Part the cases AHEAD of 'go_enter' where a test parts the walk; take each callee by a contract of your own. -/
theorem zz5_yes (s : ByteArray) (w : World) (h : s.size ≤ 1048576) : Calls Trym.prog 5 #[.string s] w fun e w' => e = .returned (.bool true) ∧ w' = w := by
  go_enter Trym.func5, Trym.ntmps5
  go_wp2
  go_ret
  exact ⟨rfl, rfl⟩

set_option maxRecDepth 100000 in
set_option maxHeartbeats 1000000 in
theorem walk (a0 : ByteArray) (w0 : a0.size ≤ maxLen) (w : World) :
    Calls Trym.prog 3 #[.string a0] w fun e w' => e = .returned (.bool true) ∧ Grown w w' := by
  unfold maxLen at w0
  by_cases hbig : 65536 < a0.size
  · go_enter Trym.func3, Trym.ntmps3
    go_wp2
    all_goals
      go_ret
      exact ⟨rfl, Grown.refl _⟩
  go_enter Trym.func3, Trym.ntmps3
  go_wp2_with fail
  refine (zz5_yes a0 w (by omega)).mono ?_
  rintro e w' ⟨rfl, hw⟩
  subst w'
  go_wp2
  go_loop [3, 4] (fun v i => ∃ k : Nat, k ≤ a0.size ∧ i = .int .i64 k ∧ v = .bool (okTo a0 k && !a0.toList.isEmpty)) (fun _ i => a0.size - (intOf i).toNat)
  case atStart => exact ⟨0, Nat.zero_le _, rfl, by rw [okTo_zero]; rfl⟩
  case round =>
    obtain ⟨k, hk, rfl, rfl⟩ := hrel
    by_cases hlt : k < a0.size
    · have hat := mkHid (ints_at a0 k hlt)
      have hbd := ints_bd a0 k
      go_wp2_with fail
      refine (allowed_any _ _ (by rw [hat.out]; exact hbd.1) (by rw [hat.out]; exact hbd.2)).mono ?_
      rintro e w' ⟨rfl, hw⟩
      subst w'
      rw [hat.out]
      rcases hb : okc ((ints a0).getD k 0) with _ | _
      · have HB := mkHid hb
        go_wp2
        go_round
        case rel => exact ⟨k + 1, by omega, by go_num, by rw [okTo_succ a0 k hlt, HB.out, Bool.and_false]; rfl⟩
        case measure => simp [intOf]; omega
      · have HB := mkHid hb
        go_wp2
        go_round
        case rel => exact ⟨k + 1, by omega, by go_num, by rw [okTo_succ a0 k hlt, HB.out, Bool.and_true]⟩
        case measure => simp [intOf]; omega
    · go_wp2_with fail
      refine (rp7_any a0 w w0).mono ?_
      rintro e w' ⟨rfl, hw⟩
      subst w'
      go_wp2
      go_ret
      have e : k = a0.size := by omega
      subst e
      exact ⟨ret_bool (by simp [rp]), Grown.refl _⟩

/-! ### THE ROW's STEP: WRITTEN OUT: LEAVE IT -/
set_option maxRecDepth 100000 in
theorem lifted (os : Os) (started : os.Started) (H : Type) (enc : TypeId × Value → H) :
    ReturnsInHanded {} Trym.checked os 3 .any (Rows.fnRunPartsNameAlphabetSpec.pre6 enc Trym.prog Trym.f3 Rows.fnRunPartsNameAlphabetRow.domain false) (Rows.fnRunPartsNameAlphabetSpec.post enc Trym.prog Trym.f3 false true false false) := by
  refine returnsInHanded_of_change (C := Trym.checked) own started (by kernel_rfl) Trym.func3
    (ChangeSpec.witness6 (enc := enc) (C := Trym.checked) false ⟨#[], #[.string ByteArray.empty], []⟩ 8 (by kernel_rfl) (by kernel_rfl) (by kernel_rfl) (by kernel_rfl)) ?_
  intro W base args ds gs before hval0 hW hcnd _
  have hval : ∀ (j : Nat) t v, Trym.f3.params[j]? = some t → args[j]? = some v → Value.okWide Trym.prog W .any base t v := hval0
  have hW' := hW
  obtain ⟨p, q, hA0, hV, rfl, hfz, hnd⟩ := hW
  have hA : DataW.TrodAll enc Trym.prog W 0 (fun _ => true) true Trym.f3.params.toList args.toList ds p := hA0
  rw [Trym.params3] at hA hval
  obtain ⟨v0, vs0, d0, ds0, p0, q0, hargs, rfl, rfl, h0, r0⟩ := trodAll_cons hA
  obtain ⟨rfl, rfl, rfl⟩ := trodAll_nil r0
  obtain rfl : args = #[v0] := by cases args; simp_all
  obtain ⟨rfl, rfl⟩ := trodVars_none hV
  obtain ⟨a0, rfl, rfl, rfl, w0⟩ := open_string Trym.underlying9 (hval 0 9 v0 rfl rfl) h0
  clear hA0 hval0
  simp only [List.append_nil] at hW'
  refine (walk a0 w0 W).mono fun e W' ⟨he, hg⟩ => ?_
  subst he
  exact ⟨_, rfl, post_of_same (pa := []) (pv := []) hW' (fun _ _ _ => (trodAll_cons_mk (shut_bool Trym.underlying4 _) trodAll_mk0)) (fun sp _ => (trodAll_cons_mk (shut_string Trym.underlying9 w0) trodAll_mk0)) (fun _ _ => rfl) rfl
    (hg.frame _) hg.2.1 (ok_one (by kernel_rfl) rfl (okWide_bool_mk Trym.underlying4 _))⟩

theorem over : Rows.fnRunPartsNameAlphabetRow.holds Trym.pinned (OpenSpec.ofChange Rows.fnRunPartsNameAlphabetSpec) :=
  OpenClaim.holds_of_wide 3 Trym.f3 rfl rfl rfl rfl rfl rfl rfl ⟨rfl, rfl, rfl, rfl, rfl⟩ rfl rfl rfl rfl rfl (by kernel_rfl) Trym.func3 (by kernel_rfl)
    (of_decide_eq_true (by kernel_rfl)) (by unfold Func.isWrapper; first | (rw [if_pos (by decide +kernel)]; kernel_rfl) | (rw [if_neg (by decide +kernel)]; exact ⟨rfl, rfl⟩))
    (fun os started H enc _ => lifted os started H enc)

/-- ████ THE STATEMENT ████ -/
theorem proved : Rows.FnRunPartsNameAlphabetSaid :=
  over
#print axioms proved
end Go.Proofs.Qxb6602620aMods.fnRunPartsNameAlphabet
