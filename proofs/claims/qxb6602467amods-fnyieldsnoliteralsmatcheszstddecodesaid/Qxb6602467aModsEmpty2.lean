import Derived.Test.Qxb6602467aModsEmpty
namespace Go.Proofs.Qxb6602467aMods
open Go.ChangeShapes Go.WideShapes Go.ChangeAt Go.RowKit
set_option linter.unusedVariables false

set_option maxHeartbeats 4000000 in
theorem z0 (g len : Nat) (x1 x2 x3 x4 x5 x6 : Int) (w : World) (hlen : len ≤ 1048576) (h0 : 0 < len) (hc0 : w.cell? ⟨g, 0, none⟩ = some (.int .u8 0))
    (b1 : 0 ≤ x1) (d1 : x1 ≤ 255) (hc1 : 1 < len → w.cell? ⟨g, 1, none⟩ = some (.int .u8 x1))
    (b2 : 0 ≤ x2) (d2 : x2 ≤ 255) (hc2 : 2 < len → w.cell? ⟨g, 2, none⟩ = some (.int .u8 x2))
    (b3 : 0 ≤ x3) (d3 : x3 ≤ 255) (hc3 : 3 < len → w.cell? ⟨g, 3, none⟩ = some (.int .u8 x3))
    (b4 : 0 ≤ x4) (d4 : x4 ≤ 255) (hc4 : 4 < len → w.cell? ⟨g, 4, none⟩ = some (.int .u8 x4))
    (b5 : 0 ≤ x5) (d5 : x5 ≤ 255) (hc5 : 5 < len → w.cell? ⟨g, 5, none⟩ = some (.int .u8 x5))
    (b6 : 0 ≤ x6) (d6 : x6 ≤ 255) (hc6 : 6 < len → w.cell? ⟨g, 6, none⟩ = some (.int .u8 x6)) :
    Calls Trym.prog 10 #[.slice (some ⟨g, 0, none⟩) len len] w fun e w' => e = .returned (.bool (accN len 0 x1 x2 x3 x4 x5)) ∧ ∃ n, w' = w.drewN n := by
  have hp : ((len : Int) == 0) = false := by simp; omega
  have hp0 : (0 : Int) < (len : Int) := by omega
  by_cases hL1 : len = 1
  · subst hL1
    go_enter Trym.func10, Trym.ntmps10
    go_wp2
    go_ret
    exact ⟨ret_bool (by simp [accN, seqOk]), 0, rfl⟩
  have hac : x1 < 128 ∨ (128 ≤ x1 ∧ x1 < 255) ∨ x1 = 255 := by omega
  by_cases hL2 : len = 2
  · subst hL2
    rcases hac with ha | ⟨ha1, ha2⟩ | ha
    · skip
      have hs : accN 2 0 x1 x2 x3 x4 x5 = (x1 == 0) := by simp [accN, seqOk]
      go_enter Trym.func10, Trym.ntmps10
      go_wp2
      all_goals
        go_ret
        refine ⟨ret_bool ?_, ?_⟩
        · first | exact hs.symm | (rw [hs]; simp [*])
        · first | exact ⟨0, rfl⟩ | exact ⟨_, rfl⟩
    · skip
      have hs : accN 2 0 x1 x2 x3 x4 x5 = false := by simp [accN, seqOk]; omega
      go_enter Trym.func10, Trym.ntmps10
      go_wp2
      all_goals
        go_ret
        refine ⟨ret_bool ?_, ?_⟩
        · first | exact hs.symm | (rw [hs]; simp [*])
        · first | exact ⟨0, rfl⟩ | exact ⟨_, rfl⟩
    · subst ha
      skip
      have hs : accN 2 0 255 x2 x3 x4 x5 = false := by simp [accN, seqOk]
      go_enter Trym.func10, Trym.ntmps10
      go_wp2
      all_goals
        go_ret
        refine ⟨ret_bool ?_, ?_⟩
        · first | exact hs.symm | (rw [hs]; simp [*])
        · first | exact ⟨0, rfl⟩ | exact ⟨_, rfl⟩
  by_cases hL3 : len = 3
  · subst hL3
    rcases hac with ha | ⟨ha1, ha2⟩ | ha
    · skip
      have hs : accN 3 0 x1 x2 x3 x4 x5 = false := by simp [accN, seqOk]; omega
      go_enter Trym.func10, Trym.ntmps10
      go_wp2
      all_goals
        go_ret
        refine ⟨ret_bool ?_, ?_⟩
        · first | exact hs.symm | (rw [hs]; simp [*])
        · first | exact ⟨0, rfl⟩ | exact ⟨_, rfl⟩
    · skip
      have hs : accN 3 0 x1 x2 x3 x4 x5 = ((x1 - 128) * 256 + x2 == 0) := by
        rw [Bool.eq_iff_iff]; simp [accN, seqOk]; omega
      go_enter Trym.func10, Trym.ntmps10
      go_wp2
      all_goals
        go_ret
        refine ⟨ret_bool ?_, ?_⟩
        · first | exact hs.symm | (rw [hs]; simp [*])
        · first | exact ⟨0, rfl⟩ | exact ⟨_, rfl⟩
    · subst ha
      skip
      have hs : accN 3 0 255 x2 x3 x4 x5 = false := by simp [accN, seqOk]
      go_enter Trym.func10, Trym.ntmps10
      go_wp2
      all_goals
        go_ret
        refine ⟨ret_bool ?_, ?_⟩
        · first | exact hs.symm | (rw [hs]; simp [*])
        · first | exact ⟨0, rfl⟩ | exact ⟨_, rfl⟩
  have h4 : 4 ≤ len := by omega
  have hs : accN len 0 x1 x2 x3 x4 x5 = false := by simp [accN, seqOk]; omega
  have k1 := hc1 (by omega)
  have k2 := hc2 (by omega)
  have k3 := hc3 (by omega)
  have r1 : (1 : Int) < (len : Int) := by omega
  have r2 : (2 : Int) < (len : Int) := by omega
  have r3 : (3 : Int) < (len : Int) := by omega
  clear hL1 hL2 hL3
  rcases hac with ha | ⟨ha1, ha2⟩ | ha
  · have t1 : ((2 : Int) == (len : Int)) = false := by simp; omega
    go_enter Trym.func10, Trym.ntmps10
    go_wp2
    all_goals
      go_ret
      refine ⟨ret_bool ?_, ?_⟩
      · first | exact hs.symm | (rw [hs]; simp [*])
      · first | exact ⟨0, rfl⟩ | exact ⟨_, rfl⟩
  · have t1 : ((3 : Int) == (len : Int)) = false := by simp; omega
    go_enter Trym.func10, Trym.ntmps10
    go_wp2
    all_goals
      go_ret
      refine ⟨ret_bool ?_, ?_⟩
      · first | exact hs.symm | (rw [hs]; simp [*])
      · first | exact ⟨0, rfl⟩ | exact ⟨_, rfl⟩
  · subst ha
    have t1 : (x2 + x3 * 256 + 32512 == 0) = false := by simp; omega
    go_enter Trym.func10, Trym.ntmps10
    go_wp2
    go_quiet (fail)
    go_wp2
    all_goals
      go_ret
      refine ⟨ret_bool ?_, ?_⟩
      · first | exact hs.symm | (rw [hs]; simp [*])
      · first | exact ⟨0, rfl⟩ | exact ⟨_, rfl⟩

set_option maxHeartbeats 4000000 in
theorem z1 (g len : Nat) (x1 x2 x3 x4 x5 x6 : Int) (w : World) (hlen : len ≤ 1048576) (h0 : 0 < len) (hc0 : w.cell? ⟨g, 0, none⟩ = some (.int .u8 1))
    (b1 : 0 ≤ x1) (d1 : x1 ≤ 255) (hc1 : 1 < len → w.cell? ⟨g, 1, none⟩ = some (.int .u8 x1))
    (b2 : 0 ≤ x2) (d2 : x2 ≤ 255) (hc2 : 2 < len → w.cell? ⟨g, 2, none⟩ = some (.int .u8 x2))
    (b3 : 0 ≤ x3) (d3 : x3 ≤ 255) (hc3 : 3 < len → w.cell? ⟨g, 3, none⟩ = some (.int .u8 x3))
    (b4 : 0 ≤ x4) (d4 : x4 ≤ 255) (hc4 : 4 < len → w.cell? ⟨g, 4, none⟩ = some (.int .u8 x4))
    (b5 : 0 ≤ x5) (d5 : x5 ≤ 255) (hc5 : 5 < len → w.cell? ⟨g, 5, none⟩ = some (.int .u8 x5))
    (b6 : 0 ≤ x6) (d6 : x6 ≤ 255) (hc6 : 6 < len → w.cell? ⟨g, 6, none⟩ = some (.int .u8 x6)) :
    Calls Trym.prog 10 #[.slice (some ⟨g, 0, none⟩) len len] w fun e w' => e = .returned (.bool (accN len 1 x1 x2 x3 x4 x5)) ∧ ∃ n, w' = w.drewN n := by
  have hp : ((len : Int) == 0) = false := by simp; omega
  have hp0 : (0 : Int) < (len : Int) := by omega
  by_cases hL1 : len = 1
  · subst hL1
    go_enter Trym.func10, Trym.ntmps10
    go_wp2
    go_ret
    exact ⟨ret_bool (by simp [accN, seqOk]), 0, rfl⟩
  by_cases hL2 : len = 2
  · subst hL2
    go_enter Trym.func10, Trym.ntmps10
    go_wp2
    go_ret
    exact ⟨ret_bool (by simp [accN, seqOk]), 0, rfl⟩
  have hac : x2 < 128 ∨ (128 ≤ x2 ∧ x2 < 255) ∨ x2 = 255 := by omega
  by_cases hL3 : len = 3
  · subst hL3
    rcases hac with ha | ⟨ha1, ha2⟩ | ha
    · skip
      have hs : accN 3 1 x1 x2 x3 x4 x5 = (x2 == 0) := by simp [accN, seqOk]
      go_enter Trym.func10, Trym.ntmps10
      go_wp2
      all_goals
        go_ret
        refine ⟨ret_bool ?_, ?_⟩
        · first | exact hs.symm | (rw [hs]; simp [*])
        · first | exact ⟨0, rfl⟩ | exact ⟨_, rfl⟩
    · skip
      have hs : accN 3 1 x1 x2 x3 x4 x5 = false := by simp [accN, seqOk]; omega
      go_enter Trym.func10, Trym.ntmps10
      go_wp2
      all_goals
        go_ret
        refine ⟨ret_bool ?_, ?_⟩
        · first | exact hs.symm | (rw [hs]; simp [*])
        · first | exact ⟨0, rfl⟩ | exact ⟨_, rfl⟩
    · subst ha
      skip
      have hs : accN 3 1 x1 255 x3 x4 x5 = false := by simp [accN, seqOk]
      go_enter Trym.func10, Trym.ntmps10
      go_wp2
      all_goals
        go_ret
        refine ⟨ret_bool ?_, ?_⟩
        · first | exact hs.symm | (rw [hs]; simp [*])
        · first | exact ⟨0, rfl⟩ | exact ⟨_, rfl⟩
  by_cases hL4 : len = 4
  · subst hL4
    rcases hac with ha | ⟨ha1, ha2⟩ | ha
    · skip
      have hs : accN 4 1 x1 x2 x3 x4 x5 = false := by simp [accN, seqOk]; omega
      go_enter Trym.func10, Trym.ntmps10
      go_wp2
      all_goals
        go_ret
        refine ⟨ret_bool ?_, ?_⟩
        · first | exact hs.symm | (rw [hs]; simp [*])
        · first | exact ⟨0, rfl⟩ | exact ⟨_, rfl⟩
    · skip
      have hs : accN 4 1 x1 x2 x3 x4 x5 = ((x2 - 128) * 256 + x3 == 0) := by
        rw [Bool.eq_iff_iff]; simp [accN, seqOk]; omega
      go_enter Trym.func10, Trym.ntmps10
      go_wp2
      all_goals
        go_ret
        refine ⟨ret_bool ?_, ?_⟩
        · first | exact hs.symm | (rw [hs]; simp [*])
        · first | exact ⟨0, rfl⟩ | exact ⟨_, rfl⟩
    · subst ha
      skip
      have hs : accN 4 1 x1 255 x3 x4 x5 = false := by simp [accN, seqOk]
      go_enter Trym.func10, Trym.ntmps10
      go_wp2
      all_goals
        go_ret
        refine ⟨ret_bool ?_, ?_⟩
        · first | exact hs.symm | (rw [hs]; simp [*])
        · first | exact ⟨0, rfl⟩ | exact ⟨_, rfl⟩
  have h4 : 5 ≤ len := by omega
  have hs : accN len 1 x1 x2 x3 x4 x5 = false := by simp [accN, seqOk]; omega
  have k2 := hc2 (by omega)
  have k3 := hc3 (by omega)
  have k4 := hc4 (by omega)
  have r2 : (2 : Int) < (len : Int) := by omega
  have r3 : (3 : Int) < (len : Int) := by omega
  have r4 : (4 : Int) < (len : Int) := by omega
  clear hL1 hL2 hL3 hL4
  rcases hac with ha | ⟨ha1, ha2⟩ | ha
  · have t1 : ((3 : Int) == (len : Int)) = false := by simp; omega
    go_enter Trym.func10, Trym.ntmps10
    go_wp2
    all_goals
      go_ret
      refine ⟨ret_bool ?_, ?_⟩
      · first | exact hs.symm | (rw [hs]; simp [*])
      · first | exact ⟨0, rfl⟩ | exact ⟨_, rfl⟩
  · have t1 : ((4 : Int) == (len : Int)) = false := by simp; omega
    go_enter Trym.func10, Trym.ntmps10
    go_wp2
    all_goals
      go_ret
      refine ⟨ret_bool ?_, ?_⟩
      · first | exact hs.symm | (rw [hs]; simp [*])
      · first | exact ⟨0, rfl⟩ | exact ⟨_, rfl⟩
  · subst ha
    have t1 : (x3 + x4 * 256 + 32512 == 0) = false := by simp; omega
    go_enter Trym.func10, Trym.ntmps10
    go_wp2
    go_quiet (fail)
    go_wp2
    all_goals
      go_ret
      refine ⟨ret_bool ?_, ?_⟩
      · first | exact hs.symm | (rw [hs]; simp [*])
      · first | exact ⟨0, rfl⟩ | exact ⟨_, rfl⟩

end Go.Proofs.Qxb6602467aMods
