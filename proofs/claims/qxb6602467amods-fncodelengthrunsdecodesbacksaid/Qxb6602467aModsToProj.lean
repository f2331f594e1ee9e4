import Derived.Test.Qxb6602467aModsPairs
import Derived.RegionTactic
import Derived.Deep.RegionWith
import Derived.Deep.QuietTactic
import Derived.BigQuiet
import Derived.BigRegion
namespace Go.Proofs.Qxb6602467aMods
open Go.ChangeShapes Go.WideShapes Go.ChangeAt Go.RowKit
set_option linter.unusedVariables false

set_option maxHeartbeats 1000000 in
theorem toProj_some (b len cap : Nat) (rs : List (Int × Int)) (w : World) (hlen : len ≤ 1048576) (hz : len ≤ rs.length) (hb : b < w.heap.size)
    (hc : ∀ j, j < len → w.cell? ⟨b, j * 2, none⟩ = some (.int .u8 (rs.getD j (0, 0)).1) ∧ w.cell? ⟨b, j * 2 + 1, none⟩ = some (.int .u8 (rs.getD j (0, 0)).2)) :
    Calls Trym.prog 15 #[.slice (some ⟨b, 0, none⟩) len cap] w fun e w' => e = .returned (.slice (some ⟨w.heap.size, 0, none⟩) len len) ∧ Below w.heap.size w w' ∧
      w'.ownsRow w.heap.size 36 2 (.slice (some ⟨w.heap.size, 0, none⟩) len len) len (flat (rs.take len)) := by
  obtain ⟨i0, hi, hz0, hz1, hz2⟩ := info_parts Trym.info36
  have q25 : ∀ (w : World) (a : Option Addr) (n c n' c' : Nat), (binOp .eql 25 (.slice a n c) (.slice none n' c')).run Trym.prog w = .ok (.bool a.isNone) w := fun w a n c n' c' => Lib.run_eql_slice_nil w _ _ a n c n' c' Trym.underlying25
  go_enter Trym.func15, Trym.ntmps15
  go_wp2_with (at_make; refine wpList_make_full _ rfl _ _ 28 rfl w.heap.size 36 i0 (.agg #[.int .u8 0, .int .u8 0]) 2 Trym.underlying28 hi hz0 hz1 _ _ _ _ len rfl rfl rfl rfl ?b2 ?b3 (Nat.le_refl _) ?_)
  case b2 => rw [hz2]; omega
  case b3 => unfold maxLen; omega
  intro w1 hown hgrow
  have hbel : Below w.heap.size w w1 := (Below.refl _ _).grown hgrow (Nat.le_refl _) (fun k h => by cases h)
  clear hgrow
  rw [flat_zero rs] at hown
  go_wp2
  go_loopw [4] (fun i wr => ∃ k : Nat, k ≤ len ∧ i = .int .i64 k ∧ wr.ownsRow w.heap.size 36 2 (.slice (some ⟨w.heap.size, 0, none⟩) len len) len (flat (pairsAt rs len k)) ∧ Below w.heap.size w wr) (fun i _ => len - (intOf i).toNat)
  case atStart => exact ⟨0, Nat.zero_le _, rfl, hown, hbel⟩
  case round =>
    clear hown hbel
    obtain ⟨k, hk, rfl, hown, hbel⟩ := hrel
    by_cases hlt : k < len
    · have hc0 : wr.cell? ⟨b, k * 2, none⟩ = some (.int .u8 (rs.getD k (0, 0)).1) := (hbel.cell (by exact hb)).trans (hc k hlt).1
      have hc1 : wr.cell? ⟨b, k * 2 + 1, none⟩ = some (.int .u8 (rs.getD k (0, 0)).2) := (hbel.cell (by exact hb)).trans (hc k hlt).2
      obtain ⟨p, hp⟩ : ∃ p, p = rs.getD k (0, 0) := ⟨_, rfl⟩
      rw [← hp] at hc0 hc1
      have hf0 : wr.frozen? ⟨w.heap.size, k * 2, none⟩ = false := hown.frozenAt _
      have hf1 : wr.frozen? ⟨w.heap.size, k * 2 + 1, none⟩ = false := hown.frozenAt _
      have hL : (pairsAt rs len k).length = len := pairsAt_length rs len k hk hz
      obtain ⟨v0, ho0⟩ : ∃ v, wr.cell? ⟨w.heap.size, k * 2, none⟩ = some v := ⟨_, (hown.cellAt (k * 2) (by omega)).trans (flat_fst _ _ (by omega))⟩
      obtain ⟨v1, ho1⟩ : ∃ v, wr.cell? ⟨w.heap.size, k * 2 + 1, none⟩ = some v := ⟨_, (hown.cellAt (k * 2 + 1) (by omega)).trans (flat_snd _ _ (by omega))⟩
      have hsz : w.heap.size < wr.heap.size := (hown.lt _ rfl).2
      have hlt' : (k : Int) < (len : Int) := by omega
      have s1 := (hown.stored (k * 2) (.int .u8 p.1)).1
      have s2 := (s1.stored (k * 2 + 1) (.int .u8 p.2)).1
      rw [flat_set _ _ _ (by omega), hp, pairsAt_succ rs len k hlt hz] at s2
      rw [← hp] at s2
      have hb2 : Below w.heap.size w ((wr.setCell ⟨w.heap.size, k * 2, none⟩ (.int .u8 p.1)).setCell ⟨w.heap.size, k * 2 + 1, none⟩ (.int .u8 p.2)) := (hbel.setCell (Nat.le_refl _) _).setCell (Nat.le_refl _) _
      clear hp s1 hown
      go_wp2_with fail
      go_region_with (go_at_call 21; refine (make_any _ _ _).mono ?_; rintro e w' ⟨rfl, rfl⟩)
      all_goals
        go_wp2
        go_roundw
        case rel => exact ⟨k + 1, by omega, by go_num, (s2.alloc _).drew, (hb2.alloc (by have := hb2.size; omega) _).drew⟩
        case measure => simp [intOf]; omega
    · have hkl : k = len := by omega
      subst hkl
      go_wp2
      go_ret
      rw [pairsAt_len] at hown
      exact ⟨rfl, hbel, hown⟩

theorem toProj_nil (w : World) : Calls Trym.prog 15 #[.slice none 0 0] w fun e w' => e = .returned (.slice none 0 0) ∧ w' = w := by
  have q25 : ∀ (w : World) (a : Option Addr) (n c n' c' : Nat), (binOp .eql 25 (.slice a n c) (.slice none n' c')).run Trym.prog w = .ok (.bool a.isNone) w := fun w a n c n' c' => Lib.run_eql_slice_nil w _ _ a n c n' c' Trym.underlying25
  go_enter Trym.func15, Trym.ntmps15
  go_wp2
  go_ret
  exact ⟨rfl, rfl⟩

theorem cloneRuns_nil (w : World) : Calls Trym.prog 13 #[.slice none 0 0] w fun e w' => e = .returned (.slice none 0 0) ∧ w' = w := by
  have q25 : ∀ (w : World) (a : Option Addr) (n c n' c' : Nat), (binOp .eql 25 (.slice a n c) (.slice none n' c')).run Trym.prog w = .ok (.bool a.isNone) w := fun w a n c n' c' => Lib.run_eql_slice_nil w _ _ a n c n' c' Trym.underlying25
  go_enter Trym.func13, Trym.ntmps13
  go_wp2
  go_ret
  exact ⟨rfl, rfl⟩

theorem clone_nil (w : World) : Calls Trym.prog 8 #[.slice none 0 0] w fun e w' => e = .returned (.slice none 0 0) ∧ w' = w := by
  have q22 : ∀ (w : World) (a : Option Addr) (n c n' c' : Nat), (binOp .eql 22 (.slice a n c) (.slice none n' c')).run Trym.prog w = .ok (.bool a.isNone) w := fun w a n c n' c' => Lib.run_eql_slice_nil w _ _ a n c n' c' Trym.underlying22
  go_enter Trym.func8, Trym.ntmps8
  go_wp2
  go_ret
  exact ⟨rfl, rfl⟩

/-- zzCloneBytes at an empty slice that is not nil. -/
theorem cloneBytes_empty (x : Addr) (cap : Nat) (w : World) :
    Calls Trym.prog 8 #[.slice (some x) 0 cap] w fun e w' => e = .returned (.slice (some ⟨w.heap.size, 0, none⟩) 0 0) ∧ Below w.heap.size w w' ∧
      w'.ownsRow w.heap.size 5 1 (.slice (some ⟨w.heap.size, 0, none⟩) 0 0) 0 [] := by
  obtain ⟨i0, hi, hz0, hz1, hz2⟩ := info_parts Trym.info5
  have q22 : ∀ (w : World) (a : Option Addr) (n c n' c' : Nat), (binOp .eql 22 (.slice a n c) (.slice none n' c')).run Trym.prog w = .ok (.bool a.isNone) w := fun w a n c n' c' => Lib.run_eql_slice_nil w _ _ a n c n' c' Trym.underlying22
  go_enter Trym.func8, Trym.ntmps8
  go_wp2_with (at_make; refine wpList_make_full _ rfl _ _ 22 rfl w.heap.size 5 i0 (.int .u8 0) 1 Trym.underlying22 hi hz0 hz1 _ _ _ _ 0 rfl rfl rfl rfl ?b2 ?b3 (Nat.le_refl _) ?_)
  case b2 => omega
  case b3 => unfold maxLen; omega
  intro w1 hown hgrow
  have hbel : Below w.heap.size w w1 := (Below.refl _ _).grown hgrow (Nat.le_refl _) (fun k h => by cases h)
  clear hgrow
  have hown' : w1.ownsRow w.heap.size 5 1 (.slice (some ⟨w.heap.size, 0, none⟩) 0 0) 0 [] := by simpa [madeCells] using hown
  clear hown
  go_wp2
  refine wp_loop_rounds 1 ?_
  rw [rounds_succ]; go_wp2
  go_ret
  exact ⟨rfl, hbel, hown'⟩

theorem cloneRuns_empty (x : Addr) (cap : Nat) (w : World) :
    Calls Trym.prog 13 #[.slice (some x) 0 cap] w fun e w' => e = .returned (.slice (some ⟨w.heap.size, 0, none⟩) 0 0) ∧ Below w.heap.size w w' ∧
      w'.ownsRow w.heap.size 38 2 (.slice (some ⟨w.heap.size, 0, none⟩) 0 0) 0 [] := by
  obtain ⟨i0, hi, hz0, hz1, hz2⟩ := info_parts Trym.info38
  have q25 : ∀ (w : World) (a : Option Addr) (n c n' c' : Nat), (binOp .eql 25 (.slice a n c) (.slice none n' c')).run Trym.prog w = .ok (.bool a.isNone) w := fun w a n c n' c' => Lib.run_eql_slice_nil w _ _ a n c n' c' Trym.underlying25
  go_enter Trym.func13, Trym.ntmps13
  go_wp2_with (at_make; refine wpList_make_full _ rfl _ _ 25 rfl w.heap.size 38 i0 (.agg #[.int .u8 0, .int .u8 0]) 2 Trym.underlying25 hi hz0 hz1 _ _ _ _ 0 rfl rfl rfl rfl ?b2 ?b3 (Nat.le_refl _) ?_)
  case b2 => omega
  case b3 => unfold maxLen; omega
  intro w1 hown hgrow
  have hbel : Below w.heap.size w w1 := (Below.refl _ _).grown hgrow (Nat.le_refl _) (fun k h => by cases h)
  clear hgrow
  have hown' : w1.ownsRow w.heap.size 38 2 (.slice (some ⟨w.heap.size, 0, none⟩) 0 0) 0 [] := by simpa [madeCells] using hown
  clear hown
  go_wp2
  refine wp_loop_rounds 1 ?_
  rw [rounds_succ]; go_wp2
  go_ret
  exact ⟨rfl, hbel, hown'⟩

end Go.Proofs.Qxb6602467aMods
