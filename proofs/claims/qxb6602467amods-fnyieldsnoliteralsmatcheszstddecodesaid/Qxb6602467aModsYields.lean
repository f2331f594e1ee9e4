import Derived.Test.Qxb6602467aModsClone
import Derived.WalkLawsBesides
import Derived.RegionTactic
import Derived.ChangeAlike
import Derived.Deep.QuietTactic
import Derived.BigQuiet
namespace Go.Proofs.Qxb6602467aMods
open Go.ChangeShapes Go.WideShapes Go.ChangeAt Go.RowKit

/-- What is left of the content (m bytes, the first two of them a, b) says: no sequences. -/
def seqOk (m : Nat) (a b : Int) : Bool := (m == 1 && a == 0) || (m == 2 && (a == 128 && b == 0))

/-- The content c, x1, x2, .. of len bytes is taken. -/
def accN (len : Nat) (c x1 x2 x3 x4 x5 : Int) : Bool :=
  if c = 0 then seqOk (len - 1) x1 x2
  else if c = 1 then seqOk (len - 2) x2 x3
  else if c = 4 then x1 == 0 && seqOk (len - 2) x2 x3
  else if c = 5 then x1 == 0 && seqOk (len - 3) x3 x4
  else if c = 12 then x1 == 0 && (x2 == 0 && seqOk (len - 3) x3 x4)
  else if c = 13 then x1 == 0 && (x2 == 0 && seqOk (len - 4) x4 x5)
  else false


theorem ret_bool {a b : Bool} (h : a = b) : Ending.returned (.bool a) = .returned (.bool b) := by rw [h]

set_option maxHeartbeats 2000000 in
theorem y0 (g len : Nat) (x1 x2 x3 x4 x5 : Int) (w : World) (hlen : len ≤ 1048576) (h0 : 0 < len) (hc0 : w.cell? ⟨g, 0, none⟩ = some (.int .u8 0))
    (hc1 : 1 < len → w.cell? ⟨g, 1, none⟩ = some (.int .u8 x1)) (hc2 : 2 < len → w.cell? ⟨g, 2, none⟩ = some (.int .u8 x2)) (hc3 : 3 < len → w.cell? ⟨g, 3, none⟩ = some (.int .u8 x3)) (hc4 : 4 < len → w.cell? ⟨g, 4, none⟩ = some (.int .u8 x4)) (hc5 : 5 < len → w.cell? ⟨g, 5, none⟩ = some (.int .u8 x5)) :
    Calls Trym.prog 19 #[.slice (some ⟨g, 0, none⟩) len len] w fun e w' => e = .returned (.bool (accN len 0 x1 x2 x3 x4 x5)) ∧ w' = w := by
  have e1 : bits .and .u8 0 3 = 0 := by decide
  have e2 : bits .andNot .u8 0 3 = 0 := by decide
  by_cases hL1 : len = 1
  · subst hL1
    go_enter Trym.func19, Trym.ntmps19
    go_wp2
    refine wp_loop_rounds 1 ?_
    rw [rounds_succ]; go_wp2
    all_goals
      go_ret
      exact ⟨ret_bool (by simp [accN, seqOk, *]), rfl⟩
  by_cases hL2 : len = 2
  · subst hL2
    go_enter Trym.func19, Trym.ntmps19
    go_wp2
    refine wp_loop_rounds 1 ?_
    rw [rounds_succ]; go_wp2
    all_goals
      go_ret
      exact ⟨ret_bool (by simp [accN, seqOk, *]), rfl⟩
  by_cases hL3 : len = 3
  · subst hL3
    go_enter Trym.func19, Trym.ntmps19
    go_wp2
    refine wp_loop_rounds 1 ?_
    rw [rounds_succ]; go_wp2
    all_goals
      go_ret
      exact ⟨ret_bool (by simp [accN, seqOk, *]), rfl⟩
  have h4 : 4 ≤ len := by omega
  have hs : accN len 0 x1 x2 x3 x4 x5 = false := by simp [accN, seqOk]; omega
  have hp : ((len : Int) == 0) = false := by simp; omega
  clear hL1 hL2 hL3
  go_enter Trym.func19, Trym.ntmps19
  go_wp2
  refine wp_loop_rounds 1 ?_
  rw [rounds_succ]; go_wp2
  go_ret
  exact ⟨ret_bool hs.symm, rfl⟩

set_option maxHeartbeats 2000000 in
theorem y1 (g len : Nat) (x1 x2 x3 x4 x5 : Int) (w : World) (hlen : len ≤ 1048576) (h0 : 0 < len) (hc0 : w.cell? ⟨g, 0, none⟩ = some (.int .u8 1))
    (hc1 : 1 < len → w.cell? ⟨g, 1, none⟩ = some (.int .u8 x1)) (hc2 : 2 < len → w.cell? ⟨g, 2, none⟩ = some (.int .u8 x2)) (hc3 : 3 < len → w.cell? ⟨g, 3, none⟩ = some (.int .u8 x3)) (hc4 : 4 < len → w.cell? ⟨g, 4, none⟩ = some (.int .u8 x4)) (hc5 : 5 < len → w.cell? ⟨g, 5, none⟩ = some (.int .u8 x5)) :
    Calls Trym.prog 19 #[.slice (some ⟨g, 0, none⟩) len len] w fun e w' => e = .returned (.bool (accN len 1 x1 x2 x3 x4 x5)) ∧ w' = w := by
  have e1 : bits .and .u8 1 3 = 1 := by decide
  have e2 : bits .andNot .u8 1 3 = 0 := by decide
  by_cases hL1 : len = 1
  · subst hL1
    go_enter Trym.func19, Trym.ntmps19
    go_wp2
    refine wp_loop_rounds 1 ?_
    rw [rounds_succ]; go_wp2
    all_goals
      go_ret
      exact ⟨ret_bool (by simp [accN, seqOk, *]), rfl⟩
  by_cases hL2 : len = 2
  · subst hL2
    go_enter Trym.func19, Trym.ntmps19
    go_wp2
    refine wp_loop_rounds 1 ?_
    rw [rounds_succ]; go_wp2
    all_goals
      go_ret
      exact ⟨ret_bool (by simp [accN, seqOk, *]), rfl⟩
  by_cases hL3 : len = 3
  · subst hL3
    go_enter Trym.func19, Trym.ntmps19
    go_wp2
    refine wp_loop_rounds 1 ?_
    rw [rounds_succ]; go_wp2
    all_goals
      go_ret
      exact ⟨ret_bool (by simp [accN, seqOk, *]), rfl⟩
  by_cases hL4 : len = 4
  · subst hL4
    go_enter Trym.func19, Trym.ntmps19
    go_wp2
    refine wp_loop_rounds 1 ?_
    rw [rounds_succ]; go_wp2
    all_goals
      go_ret
      exact ⟨ret_bool (by simp [accN, seqOk, *]), rfl⟩
  have h4 : 5 ≤ len := by omega
  have hs : accN len 1 x1 x2 x3 x4 x5 = false := by simp [accN, seqOk]; omega
  have hp : ((len : Int) == 0) = false := by simp; omega
  clear hL1 hL2 hL3 hL4
  go_enter Trym.func19, Trym.ntmps19
  go_wp2
  refine wp_loop_rounds 1 ?_
  rw [rounds_succ]; go_wp2
  go_ret
  exact ⟨ret_bool hs.symm, rfl⟩

set_option maxHeartbeats 2000000 in
theorem y4 (g len : Nat) (x1 x2 x3 x4 x5 : Int) (w : World) (hlen : len ≤ 1048576) (h0 : 0 < len) (hc0 : w.cell? ⟨g, 0, none⟩ = some (.int .u8 4))
    (hc1 : 1 < len → w.cell? ⟨g, 1, none⟩ = some (.int .u8 x1)) (hc2 : 2 < len → w.cell? ⟨g, 2, none⟩ = some (.int .u8 x2)) (hc3 : 3 < len → w.cell? ⟨g, 3, none⟩ = some (.int .u8 x3)) (hc4 : 4 < len → w.cell? ⟨g, 4, none⟩ = some (.int .u8 x4)) (hc5 : 5 < len → w.cell? ⟨g, 5, none⟩ = some (.int .u8 x5)) :
    Calls Trym.prog 19 #[.slice (some ⟨g, 0, none⟩) len len] w fun e w' => e = .returned (.bool (accN len 4 x1 x2 x3 x4 x5)) ∧ w' = w := by
  have e1 : bits .and .u8 4 3 = 0 := by decide
  have e2 : bits .andNot .u8 4 3 = 4 := by decide
  by_cases hL1 : len = 1
  · subst hL1
    go_enter Trym.func19, Trym.ntmps19
    go_wp2
    go_ret
    exact ⟨ret_bool (by simp [accN, seqOk]), rfl⟩
  have hn : 2 ≤ len := by omega
  by_cases hx1 : x1 = 0
  rotate_left
  · have hs : accN len 4 x1 x2 x3 x4 x5 = false := by simp [accN, hx1]
    have hx' : (x1 != 0) = true := by simp [hx1]
    have g1 := hc1 (by omega)
    have hp : ((len : Int) == 0) = false := by simp; omega
    clear hx1
    go_enter Trym.func19, Trym.ntmps19
    go_wp2
    refine wp_loop_rounds 1 ?_
    rw [rounds_succ]; go_wp2
    go_ret
    exact ⟨ret_bool hs.symm, rfl⟩
  subst hx1
  by_cases hL2 : len = 2
  · subst hL2
    go_enter Trym.func19, Trym.ntmps19
    go_wp2
    refine wp_loop_rounds 2 ?_
    rw [rounds_succ]; go_wp2
    rw [rounds_succ]; go_wp2
    all_goals
      go_ret
      exact ⟨ret_bool (by simp [accN, seqOk, *]), rfl⟩
  by_cases hL3 : len = 3
  · subst hL3
    go_enter Trym.func19, Trym.ntmps19
    go_wp2
    refine wp_loop_rounds 2 ?_
    rw [rounds_succ]; go_wp2
    rw [rounds_succ]; go_wp2
    all_goals
      go_ret
      exact ⟨ret_bool (by simp [accN, seqOk, *]), rfl⟩
  by_cases hL4 : len = 4
  · subst hL4
    go_enter Trym.func19, Trym.ntmps19
    go_wp2
    refine wp_loop_rounds 2 ?_
    rw [rounds_succ]; go_wp2
    rw [rounds_succ]; go_wp2
    all_goals
      go_ret
      exact ⟨ret_bool (by simp [accN, seqOk, *]), rfl⟩
  have h4 : 5 ≤ len := by omega
  have hs : accN len 4 0 x2 x3 x4 x5 = false := by simp [accN, seqOk]; omega
  have hp : ((len : Int) == 0) = false := by simp; omega
  have g1 := hc1 (by omega)
  clear hL1 hL2 hL3 hL4
  go_enter Trym.func19, Trym.ntmps19
  go_wp2
  refine wp_loop_rounds 2 ?_
  rw [rounds_succ]; go_wp2
  rw [rounds_succ]; go_wp2
  go_ret
  exact ⟨ret_bool hs.symm, rfl⟩

set_option maxHeartbeats 2000000 in
theorem y5 (g len : Nat) (x1 x2 x3 x4 x5 : Int) (w : World) (hlen : len ≤ 1048576) (h0 : 0 < len) (hc0 : w.cell? ⟨g, 0, none⟩ = some (.int .u8 5))
    (hc1 : 1 < len → w.cell? ⟨g, 1, none⟩ = some (.int .u8 x1)) (hc2 : 2 < len → w.cell? ⟨g, 2, none⟩ = some (.int .u8 x2)) (hc3 : 3 < len → w.cell? ⟨g, 3, none⟩ = some (.int .u8 x3)) (hc4 : 4 < len → w.cell? ⟨g, 4, none⟩ = some (.int .u8 x4)) (hc5 : 5 < len → w.cell? ⟨g, 5, none⟩ = some (.int .u8 x5)) :
    Calls Trym.prog 19 #[.slice (some ⟨g, 0, none⟩) len len] w fun e w' => e = .returned (.bool (accN len 5 x1 x2 x3 x4 x5)) ∧ w' = w := by
  have e1 : bits .and .u8 5 3 = 1 := by decide
  have e2 : bits .andNot .u8 5 3 = 4 := by decide
  by_cases hL1 : len = 1
  · subst hL1
    go_enter Trym.func19, Trym.ntmps19
    go_wp2
    go_ret
    exact ⟨ret_bool (by simp [accN, seqOk]), rfl⟩
  have hn : 2 ≤ len := by omega
  by_cases hx1 : x1 = 0
  rotate_left
  · have hs : accN len 5 x1 x2 x3 x4 x5 = false := by simp [accN, hx1]
    have hx' : (x1 != 0) = true := by simp [hx1]
    have g1 := hc1 (by omega)
    have hp : ((len : Int) == 0) = false := by simp; omega
    clear hx1
    go_enter Trym.func19, Trym.ntmps19
    go_wp2
    refine wp_loop_rounds 1 ?_
    rw [rounds_succ]; go_wp2
    go_ret
    exact ⟨ret_bool hs.symm, rfl⟩
  subst hx1
  by_cases hL2 : len = 2
  · subst hL2
    go_enter Trym.func19, Trym.ntmps19
    go_wp2
    refine wp_loop_rounds 2 ?_
    rw [rounds_succ]; go_wp2
    rw [rounds_succ]; go_wp2
    all_goals
      go_ret
      exact ⟨ret_bool (by simp [accN, seqOk, *]), rfl⟩
  by_cases hL3 : len = 3
  · subst hL3
    go_enter Trym.func19, Trym.ntmps19
    go_wp2
    refine wp_loop_rounds 2 ?_
    rw [rounds_succ]; go_wp2
    rw [rounds_succ]; go_wp2
    all_goals
      go_ret
      exact ⟨ret_bool (by simp [accN, seqOk, *]), rfl⟩
  by_cases hL4 : len = 4
  · subst hL4
    go_enter Trym.func19, Trym.ntmps19
    go_wp2
    refine wp_loop_rounds 2 ?_
    rw [rounds_succ]; go_wp2
    rw [rounds_succ]; go_wp2
    all_goals
      go_ret
      exact ⟨ret_bool (by simp [accN, seqOk, *]), rfl⟩
  by_cases hL5 : len = 5
  · subst hL5
    go_enter Trym.func19, Trym.ntmps19
    go_wp2
    refine wp_loop_rounds 2 ?_
    rw [rounds_succ]; go_wp2
    rw [rounds_succ]; go_wp2
    all_goals
      go_ret
      exact ⟨ret_bool (by simp [accN, seqOk, *]), rfl⟩
  have h4 : 6 ≤ len := by omega
  have hs : accN len 5 0 x2 x3 x4 x5 = false := by simp [accN, seqOk]; omega
  have hp : ((len : Int) == 0) = false := by simp; omega
  have g1 := hc1 (by omega)
  clear hL1 hL2 hL3 hL4 hL5
  go_enter Trym.func19, Trym.ntmps19
  go_wp2
  refine wp_loop_rounds 2 ?_
  rw [rounds_succ]; go_wp2
  rw [rounds_succ]; go_wp2
  go_ret
  exact ⟨ret_bool hs.symm, rfl⟩

set_option maxHeartbeats 2000000 in
theorem y12 (g len : Nat) (x1 x2 x3 x4 x5 : Int) (w : World) (hlen : len ≤ 1048576) (h0 : 0 < len) (hc0 : w.cell? ⟨g, 0, none⟩ = some (.int .u8 12))
    (hc1 : 1 < len → w.cell? ⟨g, 1, none⟩ = some (.int .u8 x1)) (hc2 : 2 < len → w.cell? ⟨g, 2, none⟩ = some (.int .u8 x2)) (hc3 : 3 < len → w.cell? ⟨g, 3, none⟩ = some (.int .u8 x3)) (hc4 : 4 < len → w.cell? ⟨g, 4, none⟩ = some (.int .u8 x4)) (hc5 : 5 < len → w.cell? ⟨g, 5, none⟩ = some (.int .u8 x5)) :
    Calls Trym.prog 19 #[.slice (some ⟨g, 0, none⟩) len len] w fun e w' => e = .returned (.bool (accN len 12 x1 x2 x3 x4 x5)) ∧ w' = w := by
  have e1 : bits .and .u8 12 3 = 0 := by decide
  have e2 : bits .andNot .u8 12 3 = 12 := by decide
  by_cases hL1 : len = 1
  · subst hL1
    go_enter Trym.func19, Trym.ntmps19
    go_wp2
    go_ret
    exact ⟨ret_bool (by simp [accN, seqOk]), rfl⟩
  by_cases hL2 : len = 2
  · subst hL2
    go_enter Trym.func19, Trym.ntmps19
    go_wp2
    go_ret
    exact ⟨ret_bool (by simp [accN, seqOk]), rfl⟩
  have hn : 3 ≤ len := by omega
  by_cases hx1 : x1 = 0
  rotate_left
  · have hs : accN len 12 x1 x2 x3 x4 x5 = false := by simp [accN, hx1]
    have hx' : (x1 != 0) = true := by simp [hx1]
    have g1 := hc1 (by omega)
    have g2 := hc2 (by omega)
    have hp : ((len : Int) == 0) = false := by simp; omega
    clear hx1
    go_enter Trym.func19, Trym.ntmps19
    go_wp2
    refine wp_loop_rounds 1 ?_
    rw [rounds_succ]; go_wp2
    go_ret
    exact ⟨ret_bool hs.symm, rfl⟩
  subst hx1
  by_cases hx2 : x2 = 0
  rotate_left
  · have hs : accN len 12 0 x2 x3 x4 x5 = false := by simp [accN, hx2]
    have hx' : (x2 != 0) = true := by simp [hx2]
    have g1 := hc1 (by omega)
    have g2 := hc2 (by omega)
    have hp : ((len : Int) == 0) = false := by simp; omega
    clear hx2
    go_enter Trym.func19, Trym.ntmps19
    go_wp2
    refine wp_loop_rounds 2 ?_
    rw [rounds_succ]; go_wp2
    rw [rounds_succ]; go_wp2
    go_ret
    exact ⟨ret_bool hs.symm, rfl⟩
  subst hx2
  by_cases hL3 : len = 3
  · subst hL3
    go_enter Trym.func19, Trym.ntmps19
    go_wp2
    refine wp_loop_rounds 3 ?_
    rw [rounds_succ]; go_wp2
    rw [rounds_succ]; go_wp2
    rw [rounds_succ]; go_wp2
    all_goals
      go_ret
      exact ⟨ret_bool (by simp [accN, seqOk, *]), rfl⟩
  by_cases hL4 : len = 4
  · subst hL4
    go_enter Trym.func19, Trym.ntmps19
    go_wp2
    refine wp_loop_rounds 3 ?_
    rw [rounds_succ]; go_wp2
    rw [rounds_succ]; go_wp2
    rw [rounds_succ]; go_wp2
    all_goals
      go_ret
      exact ⟨ret_bool (by simp [accN, seqOk, *]), rfl⟩
  by_cases hL5 : len = 5
  · subst hL5
    go_enter Trym.func19, Trym.ntmps19
    go_wp2
    refine wp_loop_rounds 3 ?_
    rw [rounds_succ]; go_wp2
    rw [rounds_succ]; go_wp2
    rw [rounds_succ]; go_wp2
    all_goals
      go_ret
      exact ⟨ret_bool (by simp [accN, seqOk, *]), rfl⟩
  have h4 : 6 ≤ len := by omega
  have hs : accN len 12 0 0 x3 x4 x5 = false := by simp [accN, seqOk]; omega
  have hp : ((len : Int) == 0) = false := by simp; omega
  have g1 := hc1 (by omega)
  have g2 := hc2 (by omega)
  clear hL1 hL2 hL3 hL4 hL5
  go_enter Trym.func19, Trym.ntmps19
  go_wp2
  refine wp_loop_rounds 3 ?_
  rw [rounds_succ]; go_wp2
  rw [rounds_succ]; go_wp2
  rw [rounds_succ]; go_wp2
  go_ret
  exact ⟨ret_bool hs.symm, rfl⟩

set_option maxHeartbeats 2000000 in
theorem y13 (g len : Nat) (x1 x2 x3 x4 x5 : Int) (w : World) (hlen : len ≤ 1048576) (h0 : 0 < len) (hc0 : w.cell? ⟨g, 0, none⟩ = some (.int .u8 13))
    (hc1 : 1 < len → w.cell? ⟨g, 1, none⟩ = some (.int .u8 x1)) (hc2 : 2 < len → w.cell? ⟨g, 2, none⟩ = some (.int .u8 x2)) (hc3 : 3 < len → w.cell? ⟨g, 3, none⟩ = some (.int .u8 x3)) (hc4 : 4 < len → w.cell? ⟨g, 4, none⟩ = some (.int .u8 x4)) (hc5 : 5 < len → w.cell? ⟨g, 5, none⟩ = some (.int .u8 x5)) :
    Calls Trym.prog 19 #[.slice (some ⟨g, 0, none⟩) len len] w fun e w' => e = .returned (.bool (accN len 13 x1 x2 x3 x4 x5)) ∧ w' = w := by
  have e1 : bits .and .u8 13 3 = 1 := by decide
  have e2 : bits .andNot .u8 13 3 = 12 := by decide
  by_cases hL1 : len = 1
  · subst hL1
    go_enter Trym.func19, Trym.ntmps19
    go_wp2
    go_ret
    exact ⟨ret_bool (by simp [accN, seqOk]), rfl⟩
  by_cases hL2 : len = 2
  · subst hL2
    go_enter Trym.func19, Trym.ntmps19
    go_wp2
    go_ret
    exact ⟨ret_bool (by simp [accN, seqOk]), rfl⟩
  have hn : 3 ≤ len := by omega
  by_cases hx1 : x1 = 0
  rotate_left
  · have hs : accN len 13 x1 x2 x3 x4 x5 = false := by simp [accN, hx1]
    have hx' : (x1 != 0) = true := by simp [hx1]
    have g1 := hc1 (by omega)
    have g2 := hc2 (by omega)
    have hp : ((len : Int) == 0) = false := by simp; omega
    clear hx1
    go_enter Trym.func19, Trym.ntmps19
    go_wp2
    refine wp_loop_rounds 1 ?_
    rw [rounds_succ]; go_wp2
    go_ret
    exact ⟨ret_bool hs.symm, rfl⟩
  subst hx1
  by_cases hx2 : x2 = 0
  rotate_left
  · have hs : accN len 13 0 x2 x3 x4 x5 = false := by simp [accN, hx2]
    have hx' : (x2 != 0) = true := by simp [hx2]
    have g1 := hc1 (by omega)
    have g2 := hc2 (by omega)
    have hp : ((len : Int) == 0) = false := by simp; omega
    clear hx2
    go_enter Trym.func19, Trym.ntmps19
    go_wp2
    refine wp_loop_rounds 2 ?_
    rw [rounds_succ]; go_wp2
    rw [rounds_succ]; go_wp2
    go_ret
    exact ⟨ret_bool hs.symm, rfl⟩
  subst hx2
  by_cases hL3 : len = 3
  · subst hL3
    go_enter Trym.func19, Trym.ntmps19
    go_wp2
    refine wp_loop_rounds 3 ?_
    rw [rounds_succ]; go_wp2
    rw [rounds_succ]; go_wp2
    rw [rounds_succ]; go_wp2
    all_goals
      go_ret
      exact ⟨ret_bool (by simp [accN, seqOk, *]), rfl⟩
  by_cases hL4 : len = 4
  · subst hL4
    go_enter Trym.func19, Trym.ntmps19
    go_wp2
    refine wp_loop_rounds 3 ?_
    rw [rounds_succ]; go_wp2
    rw [rounds_succ]; go_wp2
    rw [rounds_succ]; go_wp2
    all_goals
      go_ret
      exact ⟨ret_bool (by simp [accN, seqOk, *]), rfl⟩
  by_cases hL5 : len = 5
  · subst hL5
    go_enter Trym.func19, Trym.ntmps19
    go_wp2
    refine wp_loop_rounds 3 ?_
    rw [rounds_succ]; go_wp2
    rw [rounds_succ]; go_wp2
    rw [rounds_succ]; go_wp2
    all_goals
      go_ret
      exact ⟨ret_bool (by simp [accN, seqOk, *]), rfl⟩
  by_cases hL6 : len = 6
  · subst hL6
    go_enter Trym.func19, Trym.ntmps19
    go_wp2
    refine wp_loop_rounds 3 ?_
    rw [rounds_succ]; go_wp2
    rw [rounds_succ]; go_wp2
    rw [rounds_succ]; go_wp2
    all_goals
      go_ret
      exact ⟨ret_bool (by simp [accN, seqOk, *]), rfl⟩
  have h4 : 7 ≤ len := by omega
  have hs : accN len 13 0 0 x3 x4 x5 = false := by simp [accN, seqOk]; omega
  have hp : ((len : Int) == 0) = false := by simp; omega
  have g1 := hc1 (by omega)
  have g2 := hc2 (by omega)
  clear hL1 hL2 hL3 hL4 hL5 hL6
  go_enter Trym.func19, Trym.ntmps19
  go_wp2
  refine wp_loop_rounds 3 ?_
  rw [rounds_succ]; go_wp2
  rw [rounds_succ]; go_wp2
  rw [rounds_succ]; go_wp2
  go_ret
  exact ⟨ret_bool hs.symm, rfl⟩

end Go.Proofs.Qxb6602467aMods
