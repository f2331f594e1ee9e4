import Derived.Test.Qxb6602467aModsEmpty
namespace Go.Proofs.Qxb6602467aMods
open Go.ChangeShapes Go.WideShapes Go.ChangeAt Go.RowKit
set_option linter.unusedVariables false

set_option maxHeartbeats 4000000 in
theorem z12 (g len : Nat) (x1 x2 x3 x4 x5 x6 : Int) (w : World) (hlen : len ≤ 1048576) (h0 : 0 < len) (hc0 : w.cell? ⟨g, 0, none⟩ = some (.int .u8 12))
    (b1 : 0 ≤ x1) (d1 : x1 ≤ 255) (hc1 : 1 < len → w.cell? ⟨g, 1, none⟩ = some (.int .u8 x1))
    (b2 : 0 ≤ x2) (d2 : x2 ≤ 255) (hc2 : 2 < len → w.cell? ⟨g, 2, none⟩ = some (.int .u8 x2))
    (b3 : 0 ≤ x3) (d3 : x3 ≤ 255) (hc3 : 3 < len → w.cell? ⟨g, 3, none⟩ = some (.int .u8 x3))
    (b4 : 0 ≤ x4) (d4 : x4 ≤ 255) (hc4 : 4 < len → w.cell? ⟨g, 4, none⟩ = some (.int .u8 x4))
    (b5 : 0 ≤ x5) (d5 : x5 ≤ 255) (hc5 : 5 < len → w.cell? ⟨g, 5, none⟩ = some (.int .u8 x5))
    (b6 : 0 ≤ x6) (d6 : x6 ≤ 255) (hc6 : 6 < len → w.cell? ⟨g, 6, none⟩ = some (.int .u8 x6)) :
    Calls Trym.prog 10 #[.slice (some ⟨g, 0, none⟩) len len] w fun e w' => e = .returned (.bool (accN len 12 x1 x2 x3 x4 x5)) ∧ ∃ n, w' = w.drewN n := by
  have hp : ((len : Int) == 0) = false := by simp; omega
  have hp0 : (0 : Int) < (len : Int) := by omega
  by_cases hL1 : len = 1
  · subst hL1
    go_enter Trym.func10, Trym.ntmps10
    go_wp2
    go_ret
    exact ⟨ret_bool (by simp [accN, seqOk]), 0, rfl⟩
  by_cases hL2 : len = 2
  · subst hL2
    go_enter Trym.func10, Trym.ntmps10
    go_wp2
    go_ret
    exact ⟨ret_bool (by simp [accN, seqOk]), 0, rfl⟩
  have hn : 3 ≤ len := by omega
  have g1 := hc1 (by omega)
  have g2 := hc2 (by omega)
  have q1 : (1 : Int) < (len : Int) := by omega
  have q2 : (2 : Int) < (len : Int) := by omega
  by_cases hx : x1 = 0 ∧ x2 = 0
  rotate_left
  · have hs : accN len 12 x1 x2 x3 x4 x5 = false := by simp [accN]; omega
    have hx' : (x1 * 16 + x2 * 4096 != 0) = true := by simp; omega
    clear hx
    go_enter Trym.func10, Trym.ntmps10
    go_wp2
    go_quiet (fail)
    go_wp2
    go_ret
    exact ⟨ret_bool hs.symm, _, rfl⟩
  obtain ⟨hx1, hx2⟩ := hx
  subst hx1
  subst hx2
  by_cases hL3 : len = 3
  · subst hL3
    go_enter Trym.func10, Trym.ntmps10
    go_wp2
    go_quiet (fail)
    go_wp2
    go_ret
    exact ⟨ret_bool (by simp [accN, seqOk]), _, rfl⟩
  have hac : x3 < 128 ∨ (128 ≤ x3 ∧ x3 < 255) ∨ x3 = 255 := by omega
  by_cases hL4 : len = 4
  · subst hL4
    rcases hac with ha | ⟨ha1, ha2⟩ | ha
    · skip
      have hs : accN 4 12 0 0 x3 x4 x5 = (x3 == 0) := by simp [accN, seqOk]
      go_enter Trym.func10, Trym.ntmps10
      go_wp2
      go_quiet (fail)
      go_wp2
      all_goals
        go_ret
        refine ⟨ret_bool ?_, ?_⟩
        · first | exact hs.symm | (rw [hs]; simp [*])
        · first | exact ⟨0, rfl⟩ | exact ⟨_, rfl⟩
    · skip
      have hs : accN 4 12 0 0 x3 x4 x5 = false := by simp [accN, seqOk]; omega
      go_enter Trym.func10, Trym.ntmps10
      go_wp2
      go_quiet (fail)
      go_wp2
      all_goals
        go_ret
        refine ⟨ret_bool ?_, ?_⟩
        · first | exact hs.symm | (rw [hs]; simp [*])
        · first | exact ⟨0, rfl⟩ | exact ⟨_, rfl⟩
    · subst ha
      skip
      have hs : accN 4 12 0 0 255 x4 x5 = false := by simp [accN, seqOk]
      go_enter Trym.func10, Trym.ntmps10
      go_wp2
      go_quiet (fail)
      go_wp2
      all_goals
        go_ret
        refine ⟨ret_bool ?_, ?_⟩
        · first | exact hs.symm | (rw [hs]; simp [*])
        · first | exact ⟨0, rfl⟩ | exact ⟨_, rfl⟩
  by_cases hL5 : len = 5
  · subst hL5
    rcases hac with ha | ⟨ha1, ha2⟩ | ha
    · skip
      have hs : accN 5 12 0 0 x3 x4 x5 = false := by simp [accN, seqOk]; omega
      go_enter Trym.func10, Trym.ntmps10
      go_wp2
      go_quiet (fail)
      go_wp2
      all_goals
        go_ret
        refine ⟨ret_bool ?_, ?_⟩
        · first | exact hs.symm | (rw [hs]; simp [*])
        · first | exact ⟨0, rfl⟩ | exact ⟨_, rfl⟩
    · skip
      have hs : accN 5 12 0 0 x3 x4 x5 = ((x3 - 128) * 256 + x4 == 0) := by
        rw [Bool.eq_iff_iff]; simp [accN, seqOk]; omega
      go_enter Trym.func10, Trym.ntmps10
      go_wp2
      go_quiet (fail)
      go_wp2
      all_goals
        go_ret
        refine ⟨ret_bool ?_, ?_⟩
        · first | exact hs.symm | (rw [hs]; simp [*])
        · first | exact ⟨0, rfl⟩ | exact ⟨_, rfl⟩
    · subst ha
      skip
      have hs : accN 5 12 0 0 255 x4 x5 = false := by simp [accN, seqOk]
      go_enter Trym.func10, Trym.ntmps10
      go_wp2
      go_quiet (fail)
      go_wp2
      all_goals
        go_ret
        refine ⟨ret_bool ?_, ?_⟩
        · first | exact hs.symm | (rw [hs]; simp [*])
        · first | exact ⟨0, rfl⟩ | exact ⟨_, rfl⟩
  have h4 : 6 ≤ len := by omega
  have hs : accN len 12 0 0 x3 x4 x5 = false := by simp [accN, seqOk]; omega
  have k3 := hc3 (by omega)
  have k4 := hc4 (by omega)
  have k5 := hc5 (by omega)
  have r3 : (3 : Int) < (len : Int) := by omega
  have r4 : (4 : Int) < (len : Int) := by omega
  have r5 : (5 : Int) < (len : Int) := by omega
  clear hL1 hL2 hL3 hL4 hL5
  rcases hac with ha | ⟨ha1, ha2⟩ | ha
  · have t1 : ((4 : Int) == (len : Int)) = false := by simp; omega
    go_enter Trym.func10, Trym.ntmps10
    go_wp2
    go_quiet (fail)
    go_wp2
    all_goals
      go_ret
      refine ⟨ret_bool ?_, ?_⟩
      · first | exact hs.symm | (rw [hs]; simp [*])
      · first | exact ⟨0, rfl⟩ | exact ⟨_, rfl⟩
  · have t1 : ((5 : Int) == (len : Int)) = false := by simp; omega
    go_enter Trym.func10, Trym.ntmps10
    go_wp2
    go_quiet (fail)
    go_wp2
    all_goals
      go_ret
      refine ⟨ret_bool ?_, ?_⟩
      · first | exact hs.symm | (rw [hs]; simp [*])
      · first | exact ⟨0, rfl⟩ | exact ⟨_, rfl⟩
  · subst ha
    have t1 : (x4 + x5 * 256 + 32512 == 0) = false := by simp; omega
    go_enter Trym.func10, Trym.ntmps10
    go_wp2
    go_quiet (fail)
    go_wp2
    go_quiet (fail)
    go_wp2
    all_goals
      go_ret
      refine ⟨ret_bool ?_, ?_⟩
      · first | exact hs.symm | (rw [hs]; simp [*])
      · first | exact ⟨0, rfl⟩ | exact ⟨_, rfl⟩

set_option maxHeartbeats 4000000 in
theorem z13 (g len : Nat) (x1 x2 x3 x4 x5 x6 : Int) (w : World) (hlen : len ≤ 1048576) (h0 : 0 < len) (hc0 : w.cell? ⟨g, 0, none⟩ = some (.int .u8 13))
    (b1 : 0 ≤ x1) (d1 : x1 ≤ 255) (hc1 : 1 < len → w.cell? ⟨g, 1, none⟩ = some (.int .u8 x1))
    (b2 : 0 ≤ x2) (d2 : x2 ≤ 255) (hc2 : 2 < len → w.cell? ⟨g, 2, none⟩ = some (.int .u8 x2))
    (b3 : 0 ≤ x3) (d3 : x3 ≤ 255) (hc3 : 3 < len → w.cell? ⟨g, 3, none⟩ = some (.int .u8 x3))
    (b4 : 0 ≤ x4) (d4 : x4 ≤ 255) (hc4 : 4 < len → w.cell? ⟨g, 4, none⟩ = some (.int .u8 x4))
    (b5 : 0 ≤ x5) (d5 : x5 ≤ 255) (hc5 : 5 < len → w.cell? ⟨g, 5, none⟩ = some (.int .u8 x5))
    (b6 : 0 ≤ x6) (d6 : x6 ≤ 255) (hc6 : 6 < len → w.cell? ⟨g, 6, none⟩ = some (.int .u8 x6)) :
    Calls Trym.prog 10 #[.slice (some ⟨g, 0, none⟩) len len] w fun e w' => e = .returned (.bool (accN len 13 x1 x2 x3 x4 x5)) ∧ ∃ n, w' = w.drewN n := by
  have hp : ((len : Int) == 0) = false := by simp; omega
  have hp0 : (0 : Int) < (len : Int) := by omega
  by_cases hL1 : len = 1
  · subst hL1
    go_enter Trym.func10, Trym.ntmps10
    go_wp2
    go_ret
    exact ⟨ret_bool (by simp [accN, seqOk]), 0, rfl⟩
  by_cases hL2 : len = 2
  · subst hL2
    go_enter Trym.func10, Trym.ntmps10
    go_wp2
    go_ret
    exact ⟨ret_bool (by simp [accN, seqOk]), 0, rfl⟩
  have hn : 3 ≤ len := by omega
  have g1 := hc1 (by omega)
  have g2 := hc2 (by omega)
  have q1 : (1 : Int) < (len : Int) := by omega
  have q2 : (2 : Int) < (len : Int) := by omega
  by_cases hx : x1 = 0 ∧ x2 = 0
  rotate_left
  · have hs : accN len 13 x1 x2 x3 x4 x5 = false := by simp [accN]; omega
    have hx' : (x1 * 16 + x2 * 4096 != 0) = true := by simp; omega
    clear hx
    go_enter Trym.func10, Trym.ntmps10
    go_wp2
    go_quiet (fail)
    go_wp2
    go_ret
    exact ⟨ret_bool hs.symm, _, rfl⟩
  obtain ⟨hx1, hx2⟩ := hx
  subst hx1
  subst hx2
  by_cases hL3 : len = 3
  · subst hL3
    go_enter Trym.func10, Trym.ntmps10
    go_wp2
    go_quiet (fail)
    go_wp2
    go_ret
    exact ⟨ret_bool (by simp [accN, seqOk]), _, rfl⟩
  by_cases hL4 : len = 4
  · subst hL4
    go_enter Trym.func10, Trym.ntmps10
    go_wp2
    go_quiet (fail)
    go_wp2
    go_ret
    exact ⟨ret_bool (by simp [accN, seqOk]), _, rfl⟩
  have hac : x4 < 128 ∨ (128 ≤ x4 ∧ x4 < 255) ∨ x4 = 255 := by omega
  by_cases hL5 : len = 5
  · subst hL5
    rcases hac with ha | ⟨ha1, ha2⟩ | ha
    · skip
      have hs : accN 5 13 0 0 x3 x4 x5 = (x4 == 0) := by simp [accN, seqOk]
      go_enter Trym.func10, Trym.ntmps10
      go_wp2
      go_quiet (fail)
      go_wp2
      all_goals
        go_ret
        refine ⟨ret_bool ?_, ?_⟩
        · first | exact hs.symm | (rw [hs]; simp [*])
        · first | exact ⟨0, rfl⟩ | exact ⟨_, rfl⟩
    · skip
      have hs : accN 5 13 0 0 x3 x4 x5 = false := by simp [accN, seqOk]; omega
      go_enter Trym.func10, Trym.ntmps10
      go_wp2
      go_quiet (fail)
      go_wp2
      all_goals
        go_ret
        refine ⟨ret_bool ?_, ?_⟩
        · first | exact hs.symm | (rw [hs]; simp [*])
        · first | exact ⟨0, rfl⟩ | exact ⟨_, rfl⟩
    · subst ha
      skip
      have hs : accN 5 13 0 0 x3 255 x5 = false := by simp [accN, seqOk]
      go_enter Trym.func10, Trym.ntmps10
      go_wp2
      go_quiet (fail)
      go_wp2
      all_goals
        go_ret
        refine ⟨ret_bool ?_, ?_⟩
        · first | exact hs.symm | (rw [hs]; simp [*])
        · first | exact ⟨0, rfl⟩ | exact ⟨_, rfl⟩
  by_cases hL6 : len = 6
  · subst hL6
    rcases hac with ha | ⟨ha1, ha2⟩ | ha
    · skip
      have hs : accN 6 13 0 0 x3 x4 x5 = false := by simp [accN, seqOk]; omega
      go_enter Trym.func10, Trym.ntmps10
      go_wp2
      go_quiet (fail)
      go_wp2
      all_goals
        go_ret
        refine ⟨ret_bool ?_, ?_⟩
        · first | exact hs.symm | (rw [hs]; simp [*])
        · first | exact ⟨0, rfl⟩ | exact ⟨_, rfl⟩
    · skip
      have hs : accN 6 13 0 0 x3 x4 x5 = ((x4 - 128) * 256 + x5 == 0) := by
        rw [Bool.eq_iff_iff]; simp [accN, seqOk]; omega
      go_enter Trym.func10, Trym.ntmps10
      go_wp2
      go_quiet (fail)
      go_wp2
      all_goals
        go_ret
        refine ⟨ret_bool ?_, ?_⟩
        · first | exact hs.symm | (rw [hs]; simp [*])
        · first | exact ⟨0, rfl⟩ | exact ⟨_, rfl⟩
    · subst ha
      skip
      have hs : accN 6 13 0 0 x3 255 x5 = false := by simp [accN, seqOk]
      go_enter Trym.func10, Trym.ntmps10
      go_wp2
      go_quiet (fail)
      go_wp2
      all_goals
        go_ret
        refine ⟨ret_bool ?_, ?_⟩
        · first | exact hs.symm | (rw [hs]; simp [*])
        · first | exact ⟨0, rfl⟩ | exact ⟨_, rfl⟩
  have h4 : 7 ≤ len := by omega
  have hs : accN len 13 0 0 x3 x4 x5 = false := by simp [accN, seqOk]; omega
  have k4 := hc4 (by omega)
  have k5 := hc5 (by omega)
  have k6 := hc6 (by omega)
  have r4 : (4 : Int) < (len : Int) := by omega
  have r5 : (5 : Int) < (len : Int) := by omega
  have r6 : (6 : Int) < (len : Int) := by omega
  clear hL1 hL2 hL3 hL4 hL5 hL6
  rcases hac with ha | ⟨ha1, ha2⟩ | ha
  · have t1 : ((5 : Int) == (len : Int)) = false := by simp; omega
    go_enter Trym.func10, Trym.ntmps10
    go_wp2
    go_quiet (fail)
    go_wp2
    all_goals
      go_ret
      refine ⟨ret_bool ?_, ?_⟩
      · first | exact hs.symm | (rw [hs]; simp [*])
      · first | exact ⟨0, rfl⟩ | exact ⟨_, rfl⟩
  · have t1 : ((6 : Int) == (len : Int)) = false := by simp; omega
    go_enter Trym.func10, Trym.ntmps10
    go_wp2
    go_quiet (fail)
    go_wp2
    all_goals
      go_ret
      refine ⟨ret_bool ?_, ?_⟩
      · first | exact hs.symm | (rw [hs]; simp [*])
      · first | exact ⟨0, rfl⟩ | exact ⟨_, rfl⟩
  · subst ha
    have t1 : (x5 + x6 * 256 + 32512 == 0) = false := by simp; omega
    go_enter Trym.func10, Trym.ntmps10
    go_wp2
    go_quiet (fail)
    go_wp2
    go_quiet (fail)
    go_wp2
    all_goals
      go_ret
      refine ⟨ret_bool ?_, ?_⟩
      · first | exact hs.symm | (rw [hs]; simp [*])
      · first | exact ⟨0, rfl⟩ | exact ⟨_, rfl⟩

end Go.Proofs.Qxb6602467aMods
