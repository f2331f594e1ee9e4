import Derived.Test.Qxb6602467aModsEmpty
namespace Go.Proofs.Qxb6602467aMods
open Go.ChangeShapes Go.WideShapes Go.ChangeAt Go.RowKit
set_option linter.unusedVariables false

set_option maxHeartbeats 2000000 in
/-- zzEmptyBlockByZstdFields at another first byte: false. -/
theorem zElse (g len : Nat) (c x1 x2 : Int) (w : World) (hlen : len ≤ 1048576) (h0 : 0 < len) (hc0 : w.cell? ⟨g, 0, none⟩ = some (.int .u8 c)) (b0 : 0 ≤ c) (d0 : c ≤ 255)
    (b1 : 0 ≤ x1) (d1 : x1 ≤ 255) (hc1 : 1 < len → w.cell? ⟨g, 1, none⟩ = some (.int .u8 x1))
    (b2 : 0 ≤ x2) (d2 : x2 ≤ 255) (hc2 : 2 < len → w.cell? ⟨g, 2, none⟩ = some (.int .u8 x2))
    (h : c ≠ 0 ∧ c ≠ 1 ∧ c ≠ 4 ∧ c ≠ 5 ∧ c ≠ 12 ∧ c ≠ 13) :
    Calls Trym.prog 10 #[.slice (some ⟨g, 0, none⟩) len len] w fun e w' => e = .returned (.bool false) ∧ ∃ n, w' = w.drewN n := by
  have hp : ((len : Int) == 0) = false := by simp; omega
  have hp0 : (0 : Int) < (len : Int) := by omega
  by_cases h2 : 2 ≤ c % 4
  · go_enter Trym.func10, Trym.ntmps10
    go_wp2
    go_ret
    exact ⟨rfl, 0, rfl⟩
  have hf : (c / 4 % 4 = 0 ∧ 8 ≤ c) ∨ (c / 4 % 4 = 2 ∧ 8 ≤ c) ∨ (c / 4 % 4 = 1 ∧ 16 ≤ c) ∨ (c / 4 % 4 = 3 ∧ 16 ≤ c) := by omega
  clear h
  rcases hf with ⟨hf, h8⟩ | ⟨hf, h8⟩ | ⟨hf, h8⟩ | ⟨hf, h8⟩
  · have t : (c / 8 != 0) = true := by simp; omega
    go_enter Trym.func10, Trym.ntmps10
    go_wp2
    go_ret
    exact ⟨rfl, 0, rfl⟩
  · have t : (c / 8 != 0) = true := by simp; omega
    go_enter Trym.func10, Trym.ntmps10
    go_wp2
    go_ret
    exact ⟨rfl, 0, rfl⟩
  · by_cases hL : len = 1
    · subst hL
      go_enter Trym.func10, Trym.ntmps10
      go_wp2
      go_ret
      exact ⟨rfl, 0, rfl⟩
    · have k1 := hc1 (by omega)
      have q1 : (1 : Int) < (len : Int) := by omega
      have t : (c / 16 + x1 * 16 != 0) = true := by simp; omega
      go_enter Trym.func10, Trym.ntmps10
      go_wp2
      go_ret
      exact ⟨rfl, 0, rfl⟩
  · by_cases hL : len = 1
    · subst hL
      go_enter Trym.func10, Trym.ntmps10
      go_wp2
      go_ret
      exact ⟨rfl, 0, rfl⟩
    by_cases hL2 : len = 2
    · subst hL2
      go_enter Trym.func10, Trym.ntmps10
      go_wp2
      go_ret
      exact ⟨rfl, 0, rfl⟩
    · have k1 := hc1 (by omega)
      have k2 := hc2 (by omega)
      have q1 : (1 : Int) < (len : Int) := by omega
      have q2 : (2 : Int) < (len : Int) := by omega
      have t : (c / 16 + x1 * 16 + x2 * 4096 != 0) = true := by simp; omega
      go_enter Trym.func10, Trym.ntmps10
      go_wp2
      go_quiet (fail)
      go_wp2
      go_ret
      exact ⟨rfl, _, rfl⟩

end Go.Proofs.Qxb6602467aMods
