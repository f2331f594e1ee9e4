import Derived.Test.Qxb6602467aModsEmpty2
import Derived.Test.Qxb6602467aModsEmpty3
import Derived.Test.Qxb6602467aModsEmpty4
import Derived.Test.Qxb6602467aModsEmpty5
namespace Go.Proofs.Qxb6602467aMods
open Go.ChangeShapes Go.WideShapes Go.ChangeAt Go.RowKit
set_option linter.unusedVariables false

/-- What both functions answer at the bytes l (at least one). -/
def accL (l : List Int) : Bool := accN l.length (l.getD 0 0) (l.getD 1 0) (l.getD 2 0) (l.getD 3 0) (l.getD 4 0) (l.getD 5 0)

theorem getD_bd (l : List Int) (hb : ∀ n ∈ l, 0 ≤ n ∧ n ≤ 255) (j : Nat) : 0 ≤ l.getD j 0 ∧ l.getD j 0 ≤ 255 := by
  by_cases h : j < l.length
  · have e : l.getD j 0 = l[j] := by simp [List.getD, h]
    rw [e]; exact hb _ (List.getElem_mem h)
  · have e : l.getD j 0 = 0 := by simp [List.getD, h]
    omega

theorem y_all (g : Nat) (l : List Int) (w : World) (hlen : l.length ≤ 1048576) (h0 : 0 < l.length) (hb : ∀ n ∈ l, 0 ≤ n ∧ n ≤ 255)
    (hc : ∀ j, j < l.length → w.cell? ⟨g, j, none⟩ = some (.int .u8 (l.getD j 0))) :
    Calls Trym.prog 19 #[.slice (some ⟨g, 0, none⟩) l.length l.length] w fun e w' => e = .returned (.bool (accL l)) ∧ w' = w := by
  unfold accL
  have c0 := hc 0 h0
  by_cases h : l.getD 0 0 ≠ 0 ∧ l.getD 0 0 ≠ 1 ∧ l.getD 0 0 ≠ 4 ∧ l.getD 0 0 ≠ 5 ∧ l.getD 0 0 ≠ 12 ∧ l.getD 0 0 ≠ 13
  · rw [accN_else _ _ _ _ _ _ _ h]
    exact yElse g _ _ w hlen h0 c0 (getD_bd l hb 0).1 (getD_bd l hb 0).2 h
  · have h' : l.getD 0 0 = 0 ∨ l.getD 0 0 = 1 ∨ l.getD 0 0 = 4 ∨ l.getD 0 0 = 5 ∨ l.getD 0 0 = 12 ∨ l.getD 0 0 = 13 := by omega
    rcases h' with e | e | e | e | e | e
    · rw [e] at c0 ⊢; exact y0 g _ _ _ _ _ _ w hlen h0 c0 (hc 1) (hc 2) (hc 3) (hc 4) (hc 5)
    · rw [e] at c0 ⊢; exact y1 g _ _ _ _ _ _ w hlen h0 c0 (hc 1) (hc 2) (hc 3) (hc 4) (hc 5)
    · rw [e] at c0 ⊢; exact y4 g _ _ _ _ _ _ w hlen h0 c0 (hc 1) (hc 2) (hc 3) (hc 4) (hc 5)
    · rw [e] at c0 ⊢; exact y5 g _ _ _ _ _ _ w hlen h0 c0 (hc 1) (hc 2) (hc 3) (hc 4) (hc 5)
    · rw [e] at c0 ⊢; exact y12 g _ _ _ _ _ _ w hlen h0 c0 (hc 1) (hc 2) (hc 3) (hc 4) (hc 5)
    · rw [e] at c0 ⊢; exact y13 g _ _ _ _ _ _ w hlen h0 c0 (hc 1) (hc 2) (hc 3) (hc 4) (hc 5)

theorem z_all (g : Nat) (l : List Int) (w : World) (hlen : l.length ≤ 1048576) (h0 : 0 < l.length) (hb : ∀ n ∈ l, 0 ≤ n ∧ n ≤ 255)
    (hc : ∀ j, j < l.length → w.cell? ⟨g, j, none⟩ = some (.int .u8 (l.getD j 0))) :
    Calls Trym.prog 10 #[.slice (some ⟨g, 0, none⟩) l.length l.length] w fun e w' => e = .returned (.bool (accL l)) ∧ ∃ n, w' = w.drewN n := by
  unfold accL
  have c0 := hc 0 h0
  have B := getD_bd l hb
  by_cases h : l.getD 0 0 ≠ 0 ∧ l.getD 0 0 ≠ 1 ∧ l.getD 0 0 ≠ 4 ∧ l.getD 0 0 ≠ 5 ∧ l.getD 0 0 ≠ 12 ∧ l.getD 0 0 ≠ 13
  · rw [accN_else _ _ _ _ _ _ _ h]
    exact zElse g _ _ _ _ w hlen h0 c0 (B 0).1 (B 0).2 (B 1).1 (B 1).2 (hc 1) (B 2).1 (B 2).2 (hc 2) h
  · have h' : l.getD 0 0 = 0 ∨ l.getD 0 0 = 1 ∨ l.getD 0 0 = 4 ∨ l.getD 0 0 = 5 ∨ l.getD 0 0 = 12 ∨ l.getD 0 0 = 13 := by omega
    rcases h' with e | e | e | e | e | e
    · rw [e] at c0 ⊢; exact z0 g _ _ _ _ _ _ _ w hlen h0 c0 (B 1).1 (B 1).2 (hc 1) (B 2).1 (B 2).2 (hc 2) (B 3).1 (B 3).2 (hc 3) (B 4).1 (B 4).2 (hc 4) (B 5).1 (B 5).2 (hc 5) (B 6).1 (B 6).2 (hc 6)
    · rw [e] at c0 ⊢; exact z1 g _ _ _ _ _ _ _ w hlen h0 c0 (B 1).1 (B 1).2 (hc 1) (B 2).1 (B 2).2 (hc 2) (B 3).1 (B 3).2 (hc 3) (B 4).1 (B 4).2 (hc 4) (B 5).1 (B 5).2 (hc 5) (B 6).1 (B 6).2 (hc 6)
    · rw [e] at c0 ⊢; exact z4 g _ _ _ _ _ _ _ w hlen h0 c0 (B 1).1 (B 1).2 (hc 1) (B 2).1 (B 2).2 (hc 2) (B 3).1 (B 3).2 (hc 3) (B 4).1 (B 4).2 (hc 4) (B 5).1 (B 5).2 (hc 5) (B 6).1 (B 6).2 (hc 6)
    · rw [e] at c0 ⊢; exact z5 g _ _ _ _ _ _ _ w hlen h0 c0 (B 1).1 (B 1).2 (hc 1) (B 2).1 (B 2).2 (hc 2) (B 3).1 (B 3).2 (hc 3) (B 4).1 (B 4).2 (hc 4) (B 5).1 (B 5).2 (hc 5) (B 6).1 (B 6).2 (hc 6)
    · rw [e] at c0 ⊢; exact z12 g _ _ _ _ _ _ _ w hlen h0 c0 (B 1).1 (B 1).2 (hc 1) (B 2).1 (B 2).2 (hc 2) (B 3).1 (B 3).2 (hc 3) (B 4).1 (B 4).2 (hc 4) (B 5).1 (B 5).2 (hc 5) (B 6).1 (B 6).2 (hc 6)
    · rw [e] at c0 ⊢; exact z13 g _ _ _ _ _ _ _ w hlen h0 c0 (B 1).1 (B 1).2 (hc 1) (B 2).1 (B 2).2 (hc 2) (B 3).1 (B 3).2 (hc 3) (B 4).1 (B 4).2 (hc 4) (B 5).1 (B 5).2 (hc 5) (B 6).1 (B 6).2 (hc 6)

/-- ZZYieldsNoLiterals (function 9) hands its argument on. -/
theorem y9_all (g : Nat) (l : List Int) (w : World) (hlen : l.length ≤ 1048576) (h0 : 0 < l.length) (hb : ∀ n ∈ l, 0 ≤ n ∧ n ≤ 255)
    (hc : ∀ j, j < l.length → w.cell? ⟨g, j, none⟩ = some (.int .u8 (l.getD j 0))) :
    Calls Trym.prog 9 #[.slice (some ⟨g, 0, none⟩) l.length l.length] w fun e w' => e = .returned (.bool (accL l)) ∧ w' = w := by
  have H := y_all g l w hlen h0 hb hc
  clear hc
  go_enter Trym.func9, Trym.ntmps9
  go_wp2_with fail
  refine H.mono ?_
  rintro e w' ⟨rfl, rfl⟩
  go_wp2
  go_ret
  exact ⟨rfl, rfl⟩

/-- zzCloneBytes at an empty slice that is not nil. -/
theorem clone_empty (x : Addr) (cap : Nat) (w : World) :
    Calls Trym.prog 8 #[.slice (some x) 0 cap] w fun e w' => e = .returned (.slice (some ⟨w.heap.size, 0, none⟩) 0 0) ∧ Below w.heap.size w w' := by
  obtain ⟨i0, hi, hz0, hz1, hz2⟩ := info_parts Trym.info5
  have q22 : ∀ (w : World) (a : Option Addr) (n c n' c' : Nat), (binOp .eql 22 (.slice a n c) (.slice none n' c')).run Trym.prog w = .ok (.bool a.isNone) w := fun w a n c n' c' => Lib.run_eql_slice_nil w _ _ a n c n' c' Trym.underlying22
  go_enter Trym.func8, Trym.ntmps8
  go_wp2_with (at_make; refine wpList_make_full _ rfl _ _ 22 rfl w.heap.size 5 i0 (.int .u8 0) 1 Trym.underlying22 hi hz0 hz1 _ _ _ _ 0 rfl rfl rfl rfl ?b2 ?b3 (Nat.le_refl _) ?_)
  case b2 => omega
  case b3 => unfold maxLen; omega
  intro w1 hown hgrow
  have hbel : Below w.heap.size w w1 := (Below.refl _ _).grown hgrow (Nat.le_refl _) (fun k h => by cases h)
  clear hgrow hown
  go_wp2
  refine wp_loop_rounds 1 ?_
  rw [rounds_succ]; go_wp2
  go_ret
  exact ⟨rfl, hbel⟩

end Go.Proofs.Qxb6602467aMods
