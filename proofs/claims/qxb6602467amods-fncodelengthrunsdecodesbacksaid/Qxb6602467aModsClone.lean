/-
  Seat b6602467aM: what both laws share: 'zzCloneBytes' (function 8): a byte slice copied into a block of the call's own.
-/
import Derived.Test.Qxb6602467aModsRows
import Derived.WalkKit
import Derived.ProofKit
import Derived.OpenShut
import Derived.Below
import Derived.Lib.SliceRun
import Derived.Outline
namespace Go.Proofs.Qxb6602467aMods
open Go.ChangeShapes Go.WideShapes Go.ChangeAt Go.RowKit

theorem Trym.info5 : (Trym.prog.info? 5).map (fun i => (i.zero, i.size, i.bytes)) = some (some (.int .u8 0), 1, 1) := by kernel_rfl

/-- The copy behind k rounds: the first k numbers, then zeros. -/
def cloneAt (zs : List Int) (len k : Nat) : List Value := (zs.take k ++ List.replicate (len - k) 0).map (Value.int .u8)

theorem cloneAt_zero (zs : List Int) (len : Nat) : (madeCells #[Value.int .u8 0] len).toList = cloneAt zs len 0 := by
  rw [toList_madeCells_one]
  simp [cloneAt]

theorem cloneAt_succ (zs : List Int) (len k : Nat) (hk : k < len) (hz : len ≤ zs.length) : (cloneAt zs len k).set k (.int .u8 (zs.getD k 0)) = cloneAt zs len (k + 1) := by
  unfold cloneAt
  rw [show Value.int .u8 (zs.getD k 0) = (Value.int .u8) (zs.getD k 0) from rfl, ← List.map_set]
  congr 1
  obtain ⟨m, hm⟩ : ∃ m, len - k = m + 1 := ⟨len - k - 1, by omega⟩
  have hm' : len - (k + 1) = m := by omega
  rw [hm, hm', List.replicate_succ, List.set_append_right _ _ (by simp; omega)]
  have hl : (zs.take k).length = k := by simp; omega
  rw [hl, Nat.sub_self, List.set_cons_zero, List.take_succ_eq_append_getElem (by omega : k < zs.length), List.append_assoc]
  simp [List.getD, show k < zs.length from by omega]

theorem cloneAt_len (zs : List Int) (len : Nat) : cloneAt zs len len = (zs.take len).map (Value.int .u8) := by
  simp [cloneAt]

set_option maxHeartbeats 400000 in
theorem clone_some (b off len cap : Nat) (zs : List Int) (w : World) (hlen : len ≤ 1048576) (hz : len ≤ zs.length) (hb : b < w.heap.size)
    (hc : ∀ j, j < len → w.cell? ⟨b, off + j, none⟩ = some (.int .u8 (zs.getD j 0))) :
    Calls Trym.prog 8 #[.slice (some ⟨b, off, none⟩) len cap] w fun e w' => e = .returned (.slice (some ⟨w.heap.size, 0, none⟩) len len) ∧ Below w.heap.size w w' ∧
      w'.ownsRow w.heap.size 5 1 (.slice (some ⟨w.heap.size, 0, none⟩) len len) len ((zs.take len).map (Value.int .u8)) := by
  obtain ⟨i0, hi, hz0, hz1, hz2⟩ := info_parts Trym.info5
  have q22 : ∀ (w : World) (a : Option Addr) (n c n' c' : Nat), (binOp .eql 22 (.slice a n c) (.slice none n' c')).run Trym.prog w = .ok (.bool a.isNone) w := fun w a n c n' c' => Lib.run_eql_slice_nil w _ _ a n c n' c' Trym.underlying22
  go_enter Trym.func8, Trym.ntmps8
  go_wp2_with (at_make; refine wpList_make_full _ rfl _ _ 22 rfl w.heap.size 5 i0 (.int .u8 0) 1 Trym.underlying22 hi hz0 hz1 _ _ _ _ len rfl rfl rfl rfl ?b2 ?b3 (Nat.le_refl _) ?_)
  case b2 => rw [hz2]; omega
  case b3 => unfold maxLen; omega
  intro w1 hown hgrow
  rw [cloneAt_zero zs] at hown
  have hbel : Below w.heap.size w w1 := (Below.refl _ _).grown hgrow (Nat.le_refl _) (fun k h => by cases h)
  clear hgrow
  go_wp2
  go_loopw [4] (fun i wr => ∃ k : Nat, k ≤ len ∧ i = .int .i64 k ∧ wr.ownsRow w.heap.size 5 1 (.slice (some ⟨w.heap.size, 0, none⟩) len len) len (cloneAt zs len k) ∧ Below w.heap.size w wr) (fun i _ => len - (intOf i).toNat)
  case atStart => exact ⟨0, Nat.zero_le _, rfl, hown, hbel⟩
  case round =>
    clear hown hbel
    obtain ⟨k, hk, rfl, hown, hbel⟩ := hrel
    by_cases hlt : k < len
    · have hcx : wr.cell? ⟨b, off + k, none⟩ = some (.int .u8 (zs.getD k 0)) := (hbel.cell (by exact hb)).trans (hc k hlt)
      have hfz : wr.frozen? ⟨w.heap.size, k, none⟩ = false := hown.frozenAt k
      have hst := hown.stored k (.int .u8 (zs.getD k 0))
      rw [cloneAt_succ zs len k hlt hz] at hst
      have hst1 := hst.1
      have hbel1 : Below w.heap.size w (wr.setCell ⟨w.heap.size, k, none⟩ (.int .u8 (zs.getD k 0))) := hbel.setCell (Nat.le_refl _) _
      have hold : ∃ v, wr.cell? ⟨w.heap.size, k, none⟩ = some v := ⟨_, (hown.cellAt k (by omega)).trans (List.getElem?_eq_getElem (by rw [hown.1]; omega))⟩
      obtain ⟨vo, hold⟩ := hold
      clear hst hown
      go_wp2
      go_roundw
      case rel => exact ⟨k + 1, by omega, by go_num, by simpa using hst1, by simpa using hbel1⟩
      case measure => simp [intOf]; omega
    · have hkl : k = len := by omega
      subst hkl
      go_wp2
      go_ret
      rw [cloneAt_len] at hown
      exact ⟨rfl, hbel, hown⟩

end Go.Proofs.Qxb6602467aMods
