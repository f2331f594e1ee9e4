import Derived.Test.Qxb6602603aModsAlpha
import Derived.Lib.ConvBytes
namespace Go.Proofs.Qxb6602603aMods
open Go.ChangeShapes Go.WideShapes Go.ChangeAt Go.RowKit
set_option linter.unusedVariables false

/-- A string's bytes as numbers. -/
def ints (s : ByteArray) : List Int := s.data.toList.map fun b => (b.toNat : Int)
theorem ints_length (s : ByteArray) : (ints s).length = s.size := by rw [ints, List.length_map, Array.length_toList]; rfl
theorem ints_bd (s : ByteArray) (k : Nat) : 0 ≤ (ints s).getD k 0 ∧ (ints s).getD k 0 ≤ 255 := by
  by_cases h : k < s.data.toList.length
  · have e : (ints s).getD k 0 = ((s.data.toList[k]).toNat : Int) := by simp [ints, List.getD]; rw [Array.getElem?_eq_getElem (by simpa using h)]; rfl
    have := (s.data.toList[k]).toNat_lt
    omega
  · have e : (ints s).getD k 0 = 0 := by simp [ints, List.getD]; rw [Array.getElem?_eq_none (by simpa using h)]; rfl
    omega
theorem ints_cell (s : ByteArray) (k : Nat) (h : k < s.size) : ((s.data.toList.getD k 0).toNat : Int) = (ints s).getD k 0 := by
  have h' : k < s.data.toList.length := by rw [Array.length_toList]; exact h
  simp [ints, List.getD]
  rw [Array.getElem?_eq_getElem (by simpa using h')]; rfl
theorem ints_at (s : ByteArray) (k : Nat) (h : k < s.size) : ((s[k]'h).toNat : Int) = (ints s).getD k 0 := by
  rw [← ints_cell s k h]
  have h' : k < s.data.size := h
  have e : s.data.toList.getD k 0 = s[k]'h := by
    simp [List.getD]
    rw [Array.getElem?_eq_getElem h']; rfl
  rw [e]

def okName (s : ByteArray) : Bool := decide (1 ≤ s.size ∧ s.size ≤ 64) && (ints s).all okc
theorem okName_short (s : ByteArray) (h : s.size = 0) : okName s = false := by simp [okName, h]
theorem okName_long (s : ByteArray) (h : 64 < s.size) : okName s = false := by
  have : ¬ (1 ≤ s.size ∧ s.size ≤ 64) := by omega
  simp [okName, this]
theorem okName_bad (s : ByteArray) (k : Nat) (h : k < s.size) (hc : okc ((ints s).getD k 0) = false) : okName s = false := by
  have hl : k < (ints s).length := by rw [ints_length]; exact h
  have : (ints s).all okc = false := by
    rw [List.all_eq_false]
    refine ⟨(ints s)[k], List.getElem_mem hl, ?_⟩
    have e : (ints s).getD k 0 = (ints s)[k] := by simp [List.getD, hl]
    rw [← e, hc]; simp
  simp [okName, this]
theorem okName_good (s : ByteArray) (h1 : 1 ≤ s.size) (h2 : s.size ≤ 64) (hc : ∀ k, k < s.size → okc ((ints s).getD k 0) = true) : okName s = true := by
  have : (ints s).all okc = true := by
    rw [List.all_eq_true]
    intro x hx
    obtain ⟨k, hk, rfl⟩ := List.getElem_of_mem hx
    have := hc k (by rw [← ints_length]; exact hk)
    have e : (ints s).getD k 0 = (ints s)[k] := by simp [List.getD, hk]
    rwa [e] at this
  simp [okName, this, h1, h2]

theorem below_bytes (w : World) (e : TypeId) (s : ByteArray) : Below w.heap.size w (Lib.bytesWorld w e s) :=
  ⟨rfl, rfl, rfl, by rw [Lib.bytesWorld_size]; omega, fun k hk => Lib.bytesWorld_at_old w e s k hk⟩

set_option maxRecDepth 100000 in
set_option maxHeartbeats 4000000 in
theorem validName_any (s : ByteArray) (w : World) (hs : s.size ≤ 9223372036854775807) :
    Calls Trym.prog 20 #[.string s] w fun e w' => e = .returned (.bool (okName s)) ∧ Below w.heap.size w w' := by
  have hcv := fun (w : World) (s : ByteArray) => Lib.run_convert_string_bytes (P := Trym.prog) w 9 22 5 s Trym.underlying9 Trym.underlying22 Trym.underlying5
  by_cases h0 : s.size = 0
  · have hz : ((s.size : Int) == 0) = true := by simp [h0]
    have HO := mkHid (okName_short s h0)
    clear h0
    go_enter Trym.func20, Trym.ntmps20
    go_wp2
    go_ret
    exact ⟨ret_bool HO.out.symm, Below.refl _ _⟩
  have hz : ((s.size : Int) == 0) = false := beq_eq_false_iff_ne.2 (by omega)
  by_cases h64 : 64 < s.size
  · have HO := mkHid (okName_long s h64)
    go_enter Trym.func20, Trym.ntmps20
    go_wp2
    go_ret
    exact ⟨ret_bool HO.out.symm, Below.refl _ _⟩
  have hd : decide ((64 : Int) < (s.size : Int)) = false := decide_eq_false (by omega)
  have hbw := below_bytes w 5 s
  go_enter Trym.func20, Trym.ntmps20
  go_wp2
  go_loop [17] (fun i => ∃ k : Nat, k ≤ s.size ∧ i = .int .i64 k ∧ Hid (∀ j, j < k → okc ((ints s).getD j 0) = true)) (fun i => s.size - (intOf i).toNat)
  case atStart => exact ⟨0, Nat.zero_le _, rfl, fun j hj => absurd hj (by omega)⟩
  case round =>
    obtain ⟨k, hk, rfl, HK⟩ := hrel
    by_cases hlt : k < s.size
    · have hck := Lib.bytesWorld_cell w 5 s k hlt
      rw [ints_cell s k hlt] at hck
      have hbd := ints_bd s k
      obtain ⟨c, hc⟩ : ∃ c, c = (ints s).getD k 0 := ⟨_, rfl⟩
      rw [← hc] at hck hbd
      obtain ⟨hb0, hb1⟩ := hbd
      have HC := mkHid hc
      clear hc
      have hg : okc c = true → Hid (∀ j, j < k + 1 → okc ((ints s).getD j 0) = true) := fun h j hj => by
        by_cases h' : j < k
        · exact HK.out j h'
        · have : j = k := by omega
          rw [this, ← HC.out]; exact h
      have hbad : okc c = false → okName s = false := fun h => okName_bad s k hlt (by rw [← HC.out]; exact h)
      have HG := mkHid hg
      have HBAD := mkHid hbad
      clear hg hbad
      have hcase : c ≤ 44 ∨ c = 45 ∨ c = 46 ∨ c = 47 ∨ (48 ≤ c ∧ c ≤ 57) ∨ (58 ≤ c ∧ c ≤ 64) ∨ (65 ≤ c ∧ c ≤ 90) ∨ (91 ≤ c ∧ c ≤ 94) ∨ c = 95 ∨ c = 96 ∨ (97 ≤ c ∧ c ≤ 122) ∨ 123 ≤ c := by omega
      rcases hcase with hq | rfl | rfl | rfl | ⟨hq, hq'⟩ | ⟨hq, hq'⟩ | ⟨hq, hq'⟩ | ⟨hq, hq'⟩ | rfl | rfl | ⟨hq, hq'⟩ | hq
      · have b1 : (c == 46) = false := beq_eq_false_iff_ne.2 (by omega)
        have b2 : (c == 95) = false := beq_eq_false_iff_ne.2 (by omega)
        have b3 : (c == 45) = false := beq_eq_false_iff_ne.2 (by omega)
        have f0 : decide ((65 : Int) ≤ c) = false := decide_eq_false (by omega)
        have f1 : decide (c ≤ (90 : Int)) = true := decide_eq_true (by omega)
        have f2 : decide ((97 : Int) ≤ c) = false := decide_eq_false (by omega)
        have f3 : decide (c ≤ (122 : Int)) = true := decide_eq_true (by omega)
        have f4 : decide ((48 : Int) ≤ c) = false := decide_eq_false (by omega)
        have f5 : decide (c ≤ (57 : Int)) = true := decide_eq_true (by omega)
        go_wp2
        go_ret
        exact ⟨ret_bool (HBAD.out (decide_eq_false (by omega))).symm, hbw⟩
      · go_wp2
        all_goals
          go_round
          case rel => exact ⟨k + 1, by omega, by go_num, HG.out (decide_eq_true (by omega))⟩
          case measure => simp [intOf]; omega
      · go_wp2
        all_goals
          go_round
          case rel => exact ⟨k + 1, by omega, by go_num, HG.out (decide_eq_true (by omega))⟩
          case measure => simp [intOf]; omega
      · go_wp2
        go_ret
        exact ⟨ret_bool (HBAD.out (decide_eq_false (by omega))).symm, hbw⟩
      · go_wp2
        all_goals
          go_round
          case rel => exact ⟨k + 1, by omega, by go_num, HG.out (decide_eq_true (by omega))⟩
          case measure => simp [intOf]; omega
      · have b1 : (c == 46) = false := beq_eq_false_iff_ne.2 (by omega)
        have b2 : (c == 95) = false := beq_eq_false_iff_ne.2 (by omega)
        have b3 : (c == 45) = false := beq_eq_false_iff_ne.2 (by omega)
        have f0 : decide ((65 : Int) ≤ c) = false := decide_eq_false (by omega)
        have f1 : decide (c ≤ (90 : Int)) = true := decide_eq_true (by omega)
        have f2 : decide ((97 : Int) ≤ c) = false := decide_eq_false (by omega)
        have f3 : decide (c ≤ (122 : Int)) = true := decide_eq_true (by omega)
        have f4 : decide ((48 : Int) ≤ c) = true := decide_eq_true (by omega)
        have f5 : decide (c ≤ (57 : Int)) = false := decide_eq_false (by omega)
        go_wp2
        go_ret
        exact ⟨ret_bool (HBAD.out (decide_eq_false (by omega))).symm, hbw⟩
      · go_wp2
        all_goals
          go_round
          case rel => exact ⟨k + 1, by omega, by go_num, HG.out (decide_eq_true (by omega))⟩
          case measure => simp [intOf]; omega
      · have b1 : (c == 46) = false := beq_eq_false_iff_ne.2 (by omega)
        have b2 : (c == 95) = false := beq_eq_false_iff_ne.2 (by omega)
        have b3 : (c == 45) = false := beq_eq_false_iff_ne.2 (by omega)
        have f0 : decide ((65 : Int) ≤ c) = true := decide_eq_true (by omega)
        have f1 : decide (c ≤ (90 : Int)) = false := decide_eq_false (by omega)
        have f2 : decide ((97 : Int) ≤ c) = false := decide_eq_false (by omega)
        have f3 : decide (c ≤ (122 : Int)) = true := decide_eq_true (by omega)
        have f4 : decide ((48 : Int) ≤ c) = true := decide_eq_true (by omega)
        have f5 : decide (c ≤ (57 : Int)) = false := decide_eq_false (by omega)
        go_wp2
        go_ret
        exact ⟨ret_bool (HBAD.out (decide_eq_false (by omega))).symm, hbw⟩
      · go_wp2
        all_goals
          go_round
          case rel => exact ⟨k + 1, by omega, by go_num, HG.out (decide_eq_true (by omega))⟩
          case measure => simp [intOf]; omega
      · go_wp2
        go_ret
        exact ⟨ret_bool (HBAD.out (decide_eq_false (by omega))).symm, hbw⟩
      · go_wp2
        all_goals
          go_round
          case rel => exact ⟨k + 1, by omega, by go_num, HG.out (decide_eq_true (by omega))⟩
          case measure => simp [intOf]; omega
      · have b1 : (c == 46) = false := beq_eq_false_iff_ne.2 (by omega)
        have b2 : (c == 95) = false := beq_eq_false_iff_ne.2 (by omega)
        have b3 : (c == 45) = false := beq_eq_false_iff_ne.2 (by omega)
        have f0 : decide ((65 : Int) ≤ c) = true := decide_eq_true (by omega)
        have f1 : decide (c ≤ (90 : Int)) = false := decide_eq_false (by omega)
        have f2 : decide ((97 : Int) ≤ c) = true := decide_eq_true (by omega)
        have f3 : decide (c ≤ (122 : Int)) = false := decide_eq_false (by omega)
        have f4 : decide ((48 : Int) ≤ c) = true := decide_eq_true (by omega)
        have f5 : decide (c ≤ (57 : Int)) = false := decide_eq_false (by omega)
        go_wp2
        go_ret
        exact ⟨ret_bool (HBAD.out (decide_eq_false (by omega))).symm, hbw⟩
    · go_wp2
      go_ret
      exact ⟨ret_bool (okName_good s (by omega) (by omega) (fun j hj => HK.out j (by omega))).symm, hbw⟩

end Go.Proofs.Qxb6602603aMods
