/-
  'Rows.FnJoinSplitsBackSaid' proved. The frame is the kit's shell at this function; the walk is filled.
-/
import Derived.Test.Qxb6602768aModsRows
import Derived.Test.Qxb6602768aModsDots
import Derived.WalkKit
import Derived.ProofKit
import Derived.OpenShut
import Derived.ShutString
namespace Go.Proofs.Qxb6602768aMods.fnJoinSplitsBack
open Go.ChangeShapes Go.WideShapes Go.ChangeAt Go.RowKit
open Go.ChangeMaps (open_string shut_string)
set_option linter.unusedVariables false      -- a walk need not use every 'w<i>' (that an integer argument fits its kind)

theorem own : ownKnob Trym.prog.godebug = none := by kernel_rfl

/-! ### STEP 1: THE WALK: the Go text returns true. 'Grown w w'': the world has at most new blocks (Derived/RowKit3.lean). Part the cases AHEAD of 'go_enter' where a test parts the walk; take each callee by a contract of your own. -/
theorem zz5_yes (s t : ByteArray) (w : World) (h : s.size + t.size ≤ 1048576) : Calls Trym.prog 5 #[.string s, .string t] w fun e w' => e = .returned (.bool true) ∧ w' = w := by
  go_enter Trym.func5, Trym.ntmps5
  go_wp2
  go_ret
  exact ⟨rfl, rfl⟩

theorem zz5_no (s t : ByteArray) (w : World) (hs : s.size ≤ 9223372036854775807) (ht : t.size ≤ 9223372036854775807) (h : ¬ s.size + t.size ≤ 1048576) :
    Calls Trym.prog 5 #[.string s, .string t] w fun e w' => e = .returned (.bool false) ∧ w' = w := by
  by_cases h1 : 1048576 < s.size
  · clear h
    go_enter Trym.func5, Trym.ntmps5
    go_wp2
    go_ret
    exact ⟨rfl, rfl⟩
  by_cases h2 : 1048576 < t.size
  · clear h
    go_enter Trym.func5, Trym.ntmps5
    go_wp2
    go_ret
    exact ⟨rfl, rfl⟩
  go_enter Trym.func5, Trym.ntmps5
  go_wp2
  go_ret
  exact ⟨rfl, rfl⟩

set_option maxRecDepth 100000 in
set_option maxHeartbeats 1000000 in
theorem walk (a0 : ByteArray) (a1 : ByteArray) (w0 : a0.size ≤ maxLen) (w1 : a1.size ≤ maxLen) (w : World) :
    Calls Trym.prog 3 #[.string a0, .string a1] w fun e w' => e = .returned (.bool true) ∧ Grown w w' := by
  unfold maxLen at w0 w1
  by_cases hsum : a0.size + a1.size ≤ 1048576
  rotate_left
  · have H := zz5_no a0 a1 w (by omega) (by omega) hsum
    clear hsum
    go_enter Trym.func3, Trym.ntmps3
    go_wp2_with fail
    refine H.mono ?_
    rintro e w' ⟨rfl, hw⟩
    subst w'
    clear H
    go_wp2
    go_ret
    exact ⟨rfl, Grown.refl _⟩
  have H := zz5_yes a0 a1 w hsum
  by_cases h0 : 65536 < a0.size
  · have d0 : decide ((65536 : Int) < (a0.size : Int)) = true := decide_eq_true (by omega)
    go_enter Trym.func3, Trym.ntmps3
    go_wp2_with fail
    refine H.mono ?_
    rintro e w' ⟨rfl, hw⟩
    subst w'
    clear H
    go_wp2
    go_ret
    exact ⟨rfl, Grown.refl _⟩
  have d0 : decide ((65536 : Int) < (a0.size : Int)) = false := decide_eq_false (by omega)
  by_cases h1 : 65536 < a1.size
  · have d1 : decide ((65536 : Int) < (a1.size : Int)) = true := decide_eq_true (by omega)
    go_enter Trym.func3, Trym.ntmps3
    go_wp2_with fail
    refine H.mono ?_
    rintro e w' ⟨rfl, hw⟩
    subst w'
    clear H
    go_wp2
    go_ret
    exact ⟨rfl, Grown.refl _⟩
  have d1 : decide ((65536 : Int) < (a1.size : Int)) = false := decide_eq_false (by omega)
  go_enter Trym.func3, Trym.ntmps3
  go_wp2_with fail
  refine H.mono ?_
  rintro e w' ⟨rfl, hw⟩
  subst w'
  clear H
  go_wp2_with fail
  refine (hasDot_any a1 w (by omega)).mono ?_
  rintro e w' (⟨rfl, hw, HN⟩ | ⟨rfl, hw⟩)
  · subst w'
    rcases he : a0.toList.isEmpty with _ | _
    · have hjs : a0.size < (joined a0 a1).size := by rw [joined_size]; omega
      have hjs2 : (joined a0 a1).size ≤ 131073 := by rw [joined_size]; omega
      have HDOT := mkHid (joined_dot a0 a1 hjs)
      have HND := mkHid (joined_nodot a0 a1 HN.out)
      have hl := mkHid (joined_left a0 a1)
      have hr := mkHid (joined_right a0 a1)
      go_wp2_with fail
      refine (join_some a0 a1 w (by omega) (by omega) he).mono ?_
      rintro e w' ⟨rfl, hw⟩
      subst w'
      go_wp2_with fail
      refine (lastDot_at (joined a0 a1) a0.size w (by omega) hjs HDOT.out HND).mono ?_
      rintro e w' ⟨rfl, hw⟩
      subst w'
      go_wp2
      · go_ret
        exact ⟨ret_bool (by rw [hr.out]; simp), Grown.refl _⟩
      · have hx : ¬ ((joined a0 a1).extract 0 a0.size).toList = a0.toList := by assumption
        exact absurd (by rw [hl.out]) hx
    · go_wp2_with fail
      refine (join_empty a0 a1 w he).mono ?_
      rintro e w' ⟨rfl, hw⟩
      subst w'
      go_wp2_with fail
      refine (lastDot_none a1 w (by omega) HN).mono ?_
      rintro e w' ⟨rfl, hw⟩
      subst w'
      go_wp2
      go_ret
      exact ⟨ret_bool (by simp), Grown.refl _⟩
  · subst w'
    go_wp2
    go_ret
    exact ⟨rfl, Grown.refl _⟩

/-! ### THE ROW's STEP: WRITTEN OUT: LEAVE IT -/
set_option maxRecDepth 100000 in
theorem lifted (os : Os) (started : os.Started) (H : Type) (enc : TypeId × Value → H) :
    ReturnsInHanded {} Trym.checked os 3 .any (Rows.fnJoinSplitsBackSpec.pre6 enc Trym.prog Trym.f3 Rows.fnJoinSplitsBackRow.domain false) (Rows.fnJoinSplitsBackSpec.post enc Trym.prog Trym.f3 false true false false) := by
  refine returnsInHanded_of_change (C := Trym.checked) own started (by kernel_rfl) Trym.func3
    (ChangeSpec.witness6 (enc := enc) (C := Trym.checked) false ⟨#[], #[.string ByteArray.empty, .string ByteArray.empty], []⟩ 8 (by kernel_rfl) (by kernel_rfl) (by kernel_rfl) (by kernel_rfl)) ?_
  intro W base args ds gs before hval0 hW hcnd _
  have hval : ∀ (j : Nat) t v, Trym.f3.params[j]? = some t → args[j]? = some v → Value.okWide Trym.prog W .any base t v := hval0
  have hW' := hW
  obtain ⟨p, q, hA0, hV, rfl, hfz, hnd⟩ := hW
  have hA : DataW.TrodAll enc Trym.prog W 0 (fun _ => true) true Trym.f3.params.toList args.toList ds p := hA0
  rw [Trym.params3] at hA hval
  obtain ⟨v0, vs0, d0, ds0, p0, q0, hargs, rfl, rfl, h0, r0⟩ := trodAll_cons hA
  obtain ⟨v1, vs1, d1, ds1, p1, q1, rfl, rfl, rfl, h1, r1⟩ := trodAll_cons r0
  obtain ⟨rfl, rfl, rfl⟩ := trodAll_nil r1
  obtain rfl : args = #[v0, v1] := by cases args; simp_all
  obtain ⟨rfl, rfl⟩ := trodVars_none hV
  obtain ⟨a0, rfl, rfl, rfl, w0⟩ := open_string Trym.underlying9 (hval 0 9 v0 rfl rfl) h0
  obtain ⟨a1, rfl, rfl, rfl, w1⟩ := open_string Trym.underlying9 (hval 1 9 v1 rfl rfl) h1
  clear hA0 hval0
  simp only [List.append_nil] at hW'
  refine (walk a0 a1 w0 w1 W).mono fun e W' ⟨he, hg⟩ => ?_
  subst he
  exact ⟨_, rfl, post_of_same (pa := []) (pv := []) hW' (fun _ _ _ => (trodAll_cons_mk (shut_bool Trym.underlying4 _) trodAll_mk0)) (fun sp _ => (trodAll_cons_mk (shut_string Trym.underlying9 w0) (trodAll_cons_mk (shut_string Trym.underlying9 w1) trodAll_mk0))) (fun _ _ => rfl) rfl
    (hg.frame _) hg.2.1 (ok_one (by kernel_rfl) rfl (okWide_bool_mk Trym.underlying4 _))⟩

theorem over : Rows.fnJoinSplitsBackRow.holds Trym.pinned (OpenSpec.ofChange Rows.fnJoinSplitsBackSpec) :=
  OpenClaim.holds_of_wide 3 Trym.f3 rfl rfl rfl rfl rfl rfl rfl ⟨rfl, rfl, rfl, rfl, rfl⟩ rfl rfl rfl rfl rfl (by kernel_rfl) Trym.func3 (by kernel_rfl)
    (of_decide_eq_true (by kernel_rfl)) (by unfold Func.isWrapper; first | (rw [if_pos (by decide +kernel)]; kernel_rfl) | (rw [if_neg (by decide +kernel)]; exact ⟨rfl, rfl⟩))
    (fun os started H enc _ => lifted os started H enc)

/-- ████ THE STATEMENT ████ -/
theorem proved : Rows.FnJoinSplitsBackSaid :=
  over
#print axioms proved
end Go.Proofs.Qxb6602768aMods.fnJoinSplitsBack
