import Derived.Test.Qxb6602467aModsRows
import Derived.WalkKit
import Derived.Outline
namespace Go.Proofs.Qxb6602467aMods
open Go.RowKit
set_option linter.unusedVariables false

/-- zzBytes (function 12). -/
theorem zz12_no (a0 a1 : Option Addr) (len0 cap0 len1 cap1 : Nat) (w : World) (hm0 : len0 ≤ 9223372036854775807) (hm1 : len1 ≤ 9223372036854775807) (h : 1048576 < len0 ∨ 1048576 < len1 ∨ 1048576 < len0 + len1) :
    Calls Trym.prog 12 #[.slice a0 len0 cap0, .slice a1 len1 cap1] w fun e w' => e = .returned (.bool false) ∧ w' = w := by
  by_cases c0 : 1048576 < len0
  · clear h
    go_enter Trym.func12, Trym.ntmps12
    go_wp2
    go_ret
    exact ⟨rfl, rfl⟩
  by_cases c1 : 1048576 < len1
  · clear h
    go_enter Trym.func12, Trym.ntmps12
    go_wp2
    go_ret
    exact ⟨rfl, rfl⟩
  have c2 : 1048576 < len0 + len1 := by omega
  clear h
  go_enter Trym.func12, Trym.ntmps12
  go_wp2
  go_ret
  exact ⟨rfl, rfl⟩

theorem zz12_yes (a0 a1 : Option Addr) (len0 cap0 len1 cap1 : Nat) (w : World) (h : len0 + len1 ≤ 1048576) :
    Calls Trym.prog 12 #[.slice a0 len0 cap0, .slice a1 len1 cap1] w fun e w' => e = .returned (.bool true) ∧ w' = w := by
  go_enter Trym.func12, Trym.ntmps12
  go_wp2
  go_ret
  exact ⟨rfl, rfl⟩

theorem big (a0 a1 : Option Addr) (len0 cap0 len1 cap1 : Nat) (w : World) (hm0 : len0 ≤ 9223372036854775807) (hm1 : len1 ≤ 9223372036854775807) (h : 262144 < len0 ∨ 524288 < len1) :
    Calls Trym.prog 5 #[.slice a0 len0 cap0, .slice a1 len1 cap1] w fun e w' => e = .returned (.bool true) ∧ w' = w := by
  by_cases hs : len0 + len1 ≤ 1048576
  · have H := zz12_yes a0 a1 len0 cap0 len1 cap1 w hs
    by_cases h0 : 262144 < len0
    · clear h
      go_enter Trym.func5, Trym.ntmps5
      go_wp2_with fail
      refine H.mono ?_
      rintro e w' ⟨rfl, rfl⟩
      clear H
      go_wp2
      go_ret
      exact ⟨rfl, rfl⟩
    · have h1 : 524288 < len1 := by omega
      clear h
      go_enter Trym.func5, Trym.ntmps5
      go_wp2_with fail
      refine H.mono ?_
      rintro e w' ⟨rfl, rfl⟩
      clear H
      go_wp2
      go_ret
      exact ⟨rfl, rfl⟩
  · have H := zz12_no a0 a1 len0 cap0 len1 cap1 w hm0 hm1 (by omega)
    clear h hs
    go_enter Trym.func5, Trym.ntmps5
    go_wp2_with fail
    refine H.mono ?_
    rintro e w' ⟨rfl, rfl⟩
    clear H
    go_wp2
    go_ret
    exact ⟨rfl, rfl⟩

end Go.Proofs.Qxb6602467aMods
