import Derived.Test.Qxb6602467aModsToProj
namespace Go.Proofs.Qxb6602467aMods
open Go.ChangeShapes Go.WideShapes Go.ChangeAt Go.RowKit
set_option linter.unusedVariables false

theorem same_empty (a a' : Option Addr) (c c' : Nat) (w : World) :
    Calls Trym.prog 16 #[.slice a 0 c, .slice a' 0 c'] w fun e w' => e = .returned (.bool true) ∧ w' = w := by
  go_enter Trym.func16, Trym.ntmps16
  go_wp2
  refine wp_loop_rounds 1 ?_
  rw [rounds_succ]; go_wp2
  go_ret
  exact ⟨rfl, rfl⟩

set_option maxHeartbeats 1000000 in
theorem same_some (g b len cg cb : Nat) (rs : List (Int × Int)) (w : World) (hlen : len ≤ 1048576) (hz : len ≤ rs.length) (hgw : g < w.heap.size) (hbw : b < w.heap.size)
    (hg : ∀ j, j < len → w.cell? ⟨g, j * 2, none⟩ = some (.int .u8 (rs.getD j (0, 0)).1) ∧ w.cell? ⟨g, j * 2 + 1, none⟩ = some (.int .u8 (rs.getD j (0, 0)).2))
    (hb : ∀ j, j < len → w.cell? ⟨b, j * 2, none⟩ = some (.int .u8 (rs.getD j (0, 0)).1) ∧ w.cell? ⟨b, j * 2 + 1, none⟩ = some (.int .u8 (rs.getD j (0, 0)).2)) :
    Calls Trym.prog 16 #[.slice (some ⟨g, 0, none⟩) len cg, .slice (some ⟨b, 0, none⟩) len cb] w fun e w' => e = .returned (.bool true) ∧ Below w.heap.size w w' := by
  go_enter Trym.func16, Trym.ntmps16
  go_wp2
  go_loopw [5] (fun i wr => ∃ k : Nat, k ≤ len ∧ i = .int .i64 k ∧ Below w.heap.size w wr) (fun i _ => len - (intOf i).toNat)
  case atStart => exact ⟨0, Nat.zero_le _, rfl, Below.refl _ _⟩
  case round =>
    obtain ⟨k, hk, rfl, hbel⟩ := hrel
    by_cases hlt : k < len
    · have g0 : wr.cell? ⟨g, k * 2, none⟩ = some (.int .u8 (rs.getD k (0, 0)).1) := (hbel.cell (by exact hgw)).trans (hg k hlt).1
      have g1 : wr.cell? ⟨g, k * 2 + 1, none⟩ = some (.int .u8 (rs.getD k (0, 0)).2) := (hbel.cell (by exact hgw)).trans (hg k hlt).2
      have b0 : wr.cell? ⟨b, k * 2, none⟩ = some (.int .u8 (rs.getD k (0, 0)).1) := (hbel.cell (by exact hbw)).trans (hb k hlt).1
      have b1 : wr.cell? ⟨b, k * 2 + 1, none⟩ = some (.int .u8 (rs.getD k (0, 0)).2) := (hbel.cell (by exact hbw)).trans (hb k hlt).2
      obtain ⟨p, hp⟩ : ∃ p, p = rs.getD k (0, 0) := ⟨_, rfl⟩
      rw [← hp] at g0 g1 b0 b1
      have hlt' : (k : Int) < (len : Int) := by omega
      have hsz := hbel.size
      have hgr : g < wr.heap.size := by omega
      have hbr : b < wr.heap.size := by omega
      clear hp hg hb
      go_wp2_with fail
      go_region_with (go_at_call 22; refine (sym_any _ _ _).mono ?_; rintro e w' ⟨rfl, rfl⟩)
      all_goals
        go_wp2_with fail
        go_region_with (go_at_call 23; refine (ext_any _ _ _).mono ?_; rintro e w' ⟨rfl, rfl⟩)
        all_goals
          go_wp2
          go_roundw
          case rel => exact ⟨k + 1, by omega, by go_num, by repeat (first | exact hbel | refine Below.drew ?_ | refine Below.alloc ?_ (by first | omega | (simp; omega)) _)⟩
          case measure => simp [intOf]; omega
    · have hkl : k = len := by omega
      subst hkl
      go_wp2
      go_ret
      exact ⟨rfl, hbel⟩

end Go.Proofs.Qxb6602467aMods
