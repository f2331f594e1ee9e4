import Derived.Test.Qxb6602467aModsClone
import Derived.Test.Qxb6602467aModsRuns
import Derived.WalkLawsBesides
namespace Go.Proofs.Qxb6602467aMods
open Go.ChangeShapes Go.WideShapes Go.ChangeAt Go.RowKit
set_option linter.unusedVariables false

theorem Trym.info36 : (Trym.prog.info? 36).map (fun i => (i.zero, i.size, i.bytes)) = some (some (.agg #[.int .u8 0, .int .u8 0]), 2, 2) := by kernel_rfl
theorem Trym.info38 : (Trym.prog.info? 38).map (fun i => (i.zero, i.size, i.bytes)) = some (some (.agg #[.int .u8 0, .int .u8 0]), 2, 2) := by kernel_rfl
theorem Trym.cells36 : Trym.prog.cellsOf 36 = 2 := by kernel_rfl
theorem Trym.cells38 : Trym.prog.cellsOf 38 = 2 := by kernel_rfl

theorem sym_any (a b : Int) (w : World) : Calls Trym.prog 22 #[.agg #[.int .u8 a, .int .u8 b]] w fun e w' => e = .returned (.int .u8 a) ∧ w' = w.alloc (.cells #[.int .u8 a, .int .u8 b] 36) := by
  go_enter Trym.func22, Trym.ntmps22
  go_wp2
  go_ret
  exact ⟨rfl, rfl⟩

theorem ext_any (a b : Int) (w : World) : Calls Trym.prog 23 #[.agg #[.int .u8 a, .int .u8 b]] w fun e w' => e = .returned (.int .u8 b) ∧ w' = w.alloc (.cells #[.int .u8 a, .int .u8 b] 36) := by
  go_enter Trym.func23, Trym.ntmps23
  go_wp2
  go_ret
  exact ⟨rfl, rfl⟩

theorem make_any (a b : Int) (w : World) : Calls Trym.prog 21 #[.int .u8 a, .int .u8 b] w fun e w' => e = .returned (.agg #[.int .u8 a, .int .u8 b]) ∧ w' = w.alloc (.cells #[.int .u8 a, .int .u8 b] 36) := by
  go_enter Trym.func21, Trym.ntmps21
  go_wp2
  exact bodyPost_ret (v := .agg #[.int .u8 a, .int .u8 b]) (by simp [results, Trym.results21, go_sem]) rfl ⟨rfl, rfl⟩

/-- The cells of a row of pairs. -/
def flat (rs : List (Int × Int)) : List Value := rs.flatMap fun p => [.int .u8 p.1, .int .u8 p.2]
theorem flat_nil : flat [] = [] := rfl
theorem flat_append (a b : List (Int × Int)) : flat (a ++ b) = flat a ++ flat b := by simp [flat]
theorem flat_length (a : List (Int × Int)) : (flat a).length = a.length * 2 := by
  induction a with
  | nil => rfl
  | cons p ps ih => simp only [flat, List.flatMap_cons, List.length_append, List.length_cons, List.length_nil] at ih ⊢; omega
theorem flat_fst (rs : List (Int × Int)) (i : Nat) (h : i < rs.length) : (flat rs)[i * 2]? = some (.int .u8 (rs.getD i (0, 0)).1) := by
  induction rs generalizing i with
  | nil => simp at h
  | cons p ps ih =>
    cases i with
    | zero => rfl
    | succ i =>
      have := ih i (by simpa using h)
      have e : (i + 1) * 2 = i * 2 + 2 := by omega
      rw [e]
      simpa [flat] using this
theorem flat_snd (rs : List (Int × Int)) (i : Nat) (h : i < rs.length) : (flat rs)[i * 2 + 1]? = some (.int .u8 (rs.getD i (0, 0)).2) := by
  induction rs generalizing i with
  | nil => simp at h
  | cons p ps ih =>
    cases i with
    | zero => rfl
    | succ i =>
      have := ih i (by simpa using h)
      have e : (i + 1) * 2 + 1 = i * 2 + 1 + 2 := by omega
      rw [e]
      simpa [flat] using this

/-- The copy of a row of pairs behind k rounds. -/
def pairsAt (rs : List (Int × Int)) (len k : Nat) : List (Int × Int) := rs.take k ++ List.replicate (len - k) (0, 0)
theorem pairsAt_length (rs : List (Int × Int)) (len k : Nat) (hk : k ≤ len) (hz : len ≤ rs.length) : (pairsAt rs len k).length = len := by simp [pairsAt]; omega
theorem pairsAt_succ (rs : List (Int × Int)) (len k : Nat) (hk : k < len) (hz : len ≤ rs.length) : (pairsAt rs len k).set k (rs.getD k (0, 0)) = pairsAt rs len (k + 1) := by
  unfold pairsAt
  obtain ⟨m, hm⟩ : ∃ m, len - k = m + 1 := ⟨len - k - 1, by omega⟩
  have hm' : len - (k + 1) = m := by omega
  rw [hm, hm', List.replicate_succ, List.set_append_right _ _ (by simp; omega)]
  have hl : (rs.take k).length = k := by simp; omega
  rw [hl, Nat.sub_self, List.set_cons_zero, List.take_succ_eq_append_getElem (by omega : k < rs.length), List.append_assoc]
  simp [List.getD, show k < rs.length from by omega]
theorem pairsAt_len (rs : List (Int × Int)) (len : Nat) : pairsAt rs len len = rs.take len := by simp [pairsAt]
theorem flat_set (rs : List (Int × Int)) (i : Nat) (p : Int × Int) (h : i < rs.length) : ((flat rs).set (i * 2) (.int .u8 p.1)).set (i * 2 + 1) (.int .u8 p.2) = flat (rs.set i p) := by
  induction rs generalizing i with
  | nil => simp at h
  | cons q qs ih =>
    cases i with
    | zero => simp [flat]
    | succ i =>
      have := ih i (by simpa using h)
      have e : (i + 1) * 2 = i * 2 + 2 := by omega
      have e' : i * 2 + 2 + 1 = i * 2 + 1 + 2 := by omega
      rw [e, e']
      simpa [flat] using this
theorem flat_zero (rs : List (Int × Int)) (len : Nat) : (madeCells #[Value.int .u8 0, Value.int .u8 0] (len * 2)).toList = flat (pairsAt rs len 0) := by
  have h1 : (madeCells #[Value.int .u8 0, Value.int .u8 0] (len * 2)).toList = List.replicate (len * 2) (Value.int .u8 0) := by
    rw [List.eq_replicate_iff]
    refine ⟨by simp [madeCells], fun v hv => ?_⟩
    simp only [madeCells, Array.toList_map, List.mem_map] at hv
    obtain ⟨i, _, rfl⟩ := hv
    have : i % 2 = 0 ∨ i % 2 = 1 := by omega
    rcases this with h | h <;> simp [h]
  have h2 : ∀ n : Nat, flat (List.replicate n (0, 0)) = List.replicate (n * 2) (Value.int .u8 0) := by
    intro n
    rw [List.eq_replicate_iff]
    refine ⟨by rw [flat_length]; simp, fun v hv => ?_⟩
    simp only [flat, List.mem_flatMap] at hv
    obtain ⟨q, hq, hv⟩ := hv
    rw [List.eq_of_mem_replicate hq] at hv
    simpa using hv
  rw [h1]
  simp [pairsAt, h2]

set_option maxHeartbeats 400000 in
theorem cloneRuns_some (b off len cap : Nat) (rs : List (Int × Int)) (w : World) (hlen : len ≤ 1048576) (hz : len ≤ rs.length) (hb : b < w.heap.size)
    (hc : ∀ j, j < len → w.cell? ⟨b, off + j * 2, none⟩ = some (.int .u8 (rs.getD j (0, 0)).1) ∧ w.cell? ⟨b, off + j * 2 + 1, none⟩ = some (.int .u8 (rs.getD j (0, 0)).2)) :
    Calls Trym.prog 13 #[.slice (some ⟨b, off, none⟩) len cap] w fun e w' => e = .returned (.slice (some ⟨w.heap.size, 0, none⟩) len len) ∧ Below w.heap.size w w' ∧
      w'.ownsRow w.heap.size 38 2 (.slice (some ⟨w.heap.size, 0, none⟩) len len) len (flat (rs.take len)) := by
  obtain ⟨i0, hi, hz0, hz1, hz2⟩ := info_parts Trym.info38
  have q25 : ∀ (w : World) (a : Option Addr) (n c n' c' : Nat), (binOp .eql 25 (.slice a n c) (.slice none n' c')).run Trym.prog w = .ok (.bool a.isNone) w := fun w a n c n' c' => Lib.run_eql_slice_nil w _ _ a n c n' c' Trym.underlying25
  go_enter Trym.func13, Trym.ntmps13
  go_wp2_with (at_make; refine wpList_make_full _ rfl _ _ 25 rfl w.heap.size 38 i0 (.agg #[.int .u8 0, .int .u8 0]) 2 Trym.underlying25 hi hz0 hz1 _ _ _ _ len rfl rfl rfl rfl ?b2 ?b3 (Nat.le_refl _) ?_)
  case b2 => rw [hz2]; omega
  case b3 => unfold maxLen; omega
  intro w1 hown hgrow
  have hbel : Below w.heap.size w w1 := (Below.refl _ _).grown hgrow (Nat.le_refl _) (fun k h => by cases h)
  clear hgrow
  rw [flat_zero rs] at hown
  go_wp2
  go_loopw [4] (fun i wr => ∃ k : Nat, k ≤ len ∧ i = .int .i64 k ∧ wr.ownsRow w.heap.size 38 2 (.slice (some ⟨w.heap.size, 0, none⟩) len len) len (flat (pairsAt rs len k)) ∧ Below w.heap.size w wr) (fun i _ => len - (intOf i).toNat)
  case atStart => exact ⟨0, Nat.zero_le _, rfl, hown, hbel⟩
  case round =>
    clear hown hbel
    obtain ⟨k, hk, rfl, hown, hbel⟩ := hrel
    by_cases hlt : k < len
    · have hc0 : wr.cell? ⟨b, off + k * 2, none⟩ = some (.int .u8 (rs.getD k (0, 0)).1) := (hbel.cell (by exact hb)).trans (hc k hlt).1
      have hc1 : wr.cell? ⟨b, off + k * 2 + 1, none⟩ = some (.int .u8 (rs.getD k (0, 0)).2) := (hbel.cell (by exact hb)).trans (hc k hlt).2
      obtain ⟨p, hp⟩ : ∃ p, p = rs.getD k (0, 0) := ⟨_, rfl⟩
      rw [← hp] at hc0 hc1
      have hf0 : wr.frozen? ⟨w.heap.size, k * 2, none⟩ = false := hown.frozenAt _
      have hf1 : wr.frozen? ⟨w.heap.size, k * 2 + 1, none⟩ = false := hown.frozenAt _
      have hL : (pairsAt rs len k).length = len := pairsAt_length rs len k hk hz
      obtain ⟨v0, ho0⟩ : ∃ v, wr.cell? ⟨w.heap.size, k * 2, none⟩ = some v := ⟨_, (hown.cellAt (k * 2) (by omega)).trans (flat_fst _ _ (by omega))⟩
      obtain ⟨v1, ho1⟩ : ∃ v, wr.cell? ⟨w.heap.size, k * 2 + 1, none⟩ = some v := ⟨_, (hown.cellAt (k * 2 + 1) (by omega)).trans (flat_snd _ _ (by omega))⟩
      have s1 := (hown.stored (k * 2) (.int .u8 p.1)).1
      have s2 := (s1.stored (k * 2 + 1) (.int .u8 p.2)).1
      rw [flat_set _ _ _ (by omega), hp, pairsAt_succ rs len k hlt hz] at s2
      rw [← hp] at s2
      have hb2 : Below w.heap.size w ((wr.setCell ⟨w.heap.size, k * 2, none⟩ (.int .u8 p.1)).setCell ⟨w.heap.size, k * 2 + 1, none⟩ (.int .u8 p.2)) := (hbel.setCell (Nat.le_refl _) _).setCell (Nat.le_refl _) _
      clear hp s1 hown
      go_wp2
      go_roundw
      case rel => exact ⟨k + 1, by omega, by go_num, s2, hb2⟩
      case measure => simp [intOf]; omega
    · have hkl : k = len := by omega
      subst hkl
      go_wp2
      go_ret
      rw [pairsAt_len] at hown
      exact ⟨rfl, hbel, hown⟩

end Go.Proofs.Qxb6602467aMods
