import Derived.Test.Qxb6602603aModsValid
namespace Go.Proofs.Qxb6602603aMods
open Go.ChangeShapes Go.WideShapes Go.ChangeAt Go.RowKit
set_option linter.unusedVariables false

/-- A node ID. -/
def okID (s : ByteArray) : Bool := okName s && (!(s.toList == [46]) && !(s.toList == [46, 46]))

theorem node_any (s : ByteArray) (w : World) (hs : s.size ≤ 9223372036854775807) :
    Calls Trym.prog 19 #[.string s] w fun e w' => e = .returned (.bool (okID s)) ∧ Below w.heap.size w w' := by
  have H := validName_any s w hs
  rcases hn : okName s with _ | _
  · rw [hn] at H
    have HO : Hid (okID s = false) := by simp [Hid, okID, hn]
    clear hn
    go_enter Trym.func19, Trym.ntmps19
    go_wp2_with fail
    refine H.mono ?_
    rintro e w' ⟨rfl, hb⟩
    clear H
    go_wp2
    go_ret
    exact ⟨ret_bool HO.out.symm, hb⟩
  · rw [hn] at H
    rcases h1 : (s.toList == [46]) with _ | _
    · have HO : Hid (okID s = !(s.toList == [46, 46])) := by simp [Hid, okID, hn, h1]
      clear hn
      go_enter Trym.func19, Trym.ntmps19
      go_wp2_with fail
      refine H.mono ?_
      rintro e w' ⟨rfl, hb⟩
      clear H
      go_wp2
      go_ret
      exact ⟨ret_bool (by rw [HO.out]), hb⟩
    · have HO : Hid (okID s = false) := by simp [Hid, okID, hn, h1]
      clear hn
      go_enter Trym.func19, Trym.ntmps19
      go_wp2_with fail
      refine H.mono ?_
      rintro e w' ⟨rfl, hb⟩
      clear H
      go_wp2
      go_ret
      exact ⟨ret_bool HO.out.symm, hb⟩

set_option maxRecDepth 100000 in
set_option maxHeartbeats 1000000 in
theorem model_any (s : ByteArray) (w : World) (hs : s.size ≤ 9223372036854775807) :
    Calls Trym.prog 10 #[.string s] w fun e w' => e = .returned (.bool (okID s)) ∧ w' = w := by
  by_cases h0 : s.size = 0
  · have HO : Hid (okID s = false) := by simp [Hid, okID, okName_short s h0]
    have hz : decide ((s.size : Int) < 1) = true := decide_eq_true (by omega)
    have hz' : (s.size : Int) < 1 := by omega
    clear h0
    go_enter Trym.func10, Trym.ntmps10
    go_wp2
    go_ret
    exact ⟨ret_bool HO.out.symm, rfl⟩
  by_cases h64 : 64 < s.size
  · have HO : Hid (okID s = false) := by simp [Hid, okID, okName_long s h64]
    have hz : decide ((s.size : Int) < 1) = false := decide_eq_false (by omega)
    have hz' : decide ((64 : Int) < s.size) = true := decide_eq_true (by omega)
    go_enter Trym.func10, Trym.ntmps10
    go_wp2
    go_ret
    exact ⟨ret_bool HO.out.symm, rfl⟩
  have hz : decide ((s.size : Int) < 1) = false := decide_eq_false (by omega)
  have hz' : decide ((64 : Int) < s.size) = false := decide_eq_false (by omega)
  rcases h1 : (s.toList == [46]) with _ | _
  · rcases h2 : (s.toList == [46, 46]) with _ | _
    · have HO : Hid (okID s = okName s) := by simp [Hid, okID, h1, h2]
      go_enter Trym.func10, Trym.ntmps10
      go_wp2
      go_loop [3] (fun i => ∃ k : Nat, k ≤ s.size ∧ i = .int .i64 k ∧ Hid (∀ j, j < k → okc ((ints s).getD j 0) = true)) (fun i => s.size - (intOf i).toNat)
      case atStart => exact ⟨0, Nat.zero_le _, rfl, fun j hj => absurd hj (by omega)⟩
      case round =>
        obtain ⟨k, hk, rfl, HK⟩ := hrel
        by_cases hlt : k < s.size
        · have hbd := ints_bd s k
          have hat := mkHid (ints_at s k hlt)
          go_wp2_with fail
          refine (allowed_any _ _ (by rw [hat.out]; exact hbd.1) (by rw [hat.out]; exact hbd.2)).mono ?_
          rintro e w' ⟨rfl, hw⟩
          subst w'
          rw [hat.out]
          rcases hb : okc ((ints s).getD k 0) with _ | _
          · have HB := mkHid (okName_bad s k hlt hb)
            go_wp2
            go_ret
            exact ⟨ret_bool (by rw [HO.out, HB.out]), rfl⟩
          · have HB := mkHid hb
            go_wp2
            go_round
            case rel => exact ⟨k + 1, by omega, by go_num, fun j hj => by
              by_cases h' : j < k
              · exact HK.out j h'
              · have : j = k := by omega
                rw [this]; exact HB.out⟩
            case measure => simp [intOf]; omega
        · go_wp2
          go_ret
          exact ⟨ret_bool (by rw [HO.out, okName_good s (by omega) (by omega) (fun j hj => HK.out j (by omega))]), rfl⟩
    · have HO : Hid (okID s = false) := by simp [Hid, okID, h2]
      go_enter Trym.func10, Trym.ntmps10
      go_wp2
      go_ret
      exact ⟨ret_bool HO.out.symm, rfl⟩
  · have HO : Hid (okID s = false) := by simp [Hid, okID, h1]
    go_enter Trym.func10, Trym.ntmps10
    go_wp2
    go_ret
    exact ⟨ret_bool HO.out.symm, rfl⟩

end Go.Proofs.Qxb6602603aMods
