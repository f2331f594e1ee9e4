import Derived.Test.Qxb6602467aModsYields
namespace Go.Proofs.Qxb6602467aMods
open Go.ChangeShapes Go.WideShapes Go.ChangeAt Go.RowKit

theorem and3 (c : Int) (h0 : 0 ≤ c) (h1 : c ≤ 255) : bits .and .u8 c 3 = c % 4 := by
  have h : ∀ n : Fin 256, bits .and .u8 ((n.val : Nat) : Int) 3 = ((n.val : Nat) : Int) % 4 := by decide +kernel
  have := h ⟨c.toNat, by omega⟩
  simp only [] at this
  rwa [Int.toNat_of_nonneg h0] at this

theorem andNot3 (c : Int) (h0 : 0 ≤ c) (h1 : c ≤ 255) : bits .andNot .u8 c 3 = c - c % 4 := by
  have h : ∀ n : Fin 256, bits .andNot .u8 ((n.val : Nat) : Int) 3 = ((n.val : Nat) : Int) - ((n.val : Nat) : Int) % 4 := by decide +kernel
  have := h ⟨c.toNat, by omega⟩
  simp only [] at this
  rwa [Int.toNat_of_nonneg h0] at this

theorem accN_else (len : Nat) (c x1 x2 x3 x4 x5 : Int) (h : c ≠ 0 ∧ c ≠ 1 ∧ c ≠ 4 ∧ c ≠ 5 ∧ c ≠ 12 ∧ c ≠ 13) : accN len c x1 x2 x3 x4 x5 = false := by
  obtain ⟨a, b, d, e, f, g⟩ := h
  simp [accN, a, b, d, e, f, g]

/-- yieldsNoLiterals at another first byte: false. -/
theorem yElse (g len : Nat) (c : Int) (w : World) (hlen : len ≤ 1048576) (h0 : 0 < len) (hc0 : w.cell? ⟨g, 0, none⟩ = some (.int .u8 c)) (b0 : 0 ≤ c) (b1 : c ≤ 255)
    (h : c ≠ 0 ∧ c ≠ 1 ∧ c ≠ 4 ∧ c ≠ 5 ∧ c ≠ 12 ∧ c ≠ 13) :
    Calls Trym.prog 19 #[.slice (some ⟨g, 0, none⟩) len len] w fun e w' => e = .returned (.bool false) ∧ w' = w := by
  have hp : ((len : Int) == 0) = false := by simp; omega
  have hp0 : (0 : Int) < (len : Int) := by omega
  have e1 := and3 c b0 b1
  have e2 := andNot3 c b0 b1
  by_cases h2 : 1 < c % 4
  · go_enter Trym.func19, Trym.ntmps19
    go_wp2
    go_ret
    exact ⟨rfl, rfl⟩
  · have t0 : (c - c % 4 == 0) = false := by simp; omega
    have t4 : (c - c % 4 == 4) = false := by simp; omega
    have t12 : (c - c % 4 == 12) = false := by simp; omega
    clear h
    go_enter Trym.func19, Trym.ntmps19
    go_wp2
    go_ret
    exact ⟨rfl, rfl⟩

end Go.Proofs.Qxb6602467aMods
