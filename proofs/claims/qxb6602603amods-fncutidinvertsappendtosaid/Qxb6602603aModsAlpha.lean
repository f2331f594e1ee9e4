import Derived.Test.Qxb6602603aModsClone
import Derived.WalkLawsBesides
namespace Go.Proofs.Qxb6602603aMods
open Go.ChangeShapes Go.WideShapes Go.ChangeAt Go.RowKit
set_option linter.unusedVariables false

/-- The bytes that a node ID may hold, as config's own test has them. -/
def okc (c : Int) : Bool := decide ((65 ≤ c ∧ c ≤ 90) ∨ (97 ≤ c ∧ c ≤ 122) ∨ (48 ≤ c ∧ c ≤ 57) ∨ c = 46 ∨ c = 95 ∨ c = 45)

/-- The law's own alphabet. -/
abbrev alphabet : ByteArray := ⟨#[65, 66, 67, 68, 69, 70, 71, 72, 73, 74, 75, 76, 77, 78, 79, 80, 81, 82, 83, 84, 85, 86, 87, 88, 89, 90, 97, 98, 99, 100, 101, 102, 103, 104, 105, 106, 107, 108, 109, 110, 111, 112, 113, 114, 115, 116, 117, 118, 119, 120, 121, 122, 48, 49, 50, 51, 52, 53, 54, 55, 56, 57, 46, 95, 45]⟩
def letter (k : Nat) : Int := ([65, 66, 67, 68, 69, 70, 71, 72, 73, 74, 75, 76, 77, 78, 79, 80, 81, 82, 83, 84, 85, 86, 87, 88, 89, 90, 97, 98, 99, 100, 101, 102, 103, 104, 105, 106, 107, 108, 109, 110, 111, 112, 113, 114, 115, 116, 117, 118, 119, 120, 121, 122, 48, 49, 50, 51, 52, 53, 54, 55, 56, 57, 46, 95, 45] : List Int).getD k 0
theorem alphabet_size : alphabet.size = 65 := rfl
theorem alphabet_at (k : Nat) (h : k < alphabet.size) : ((alphabet[k]'h).toNat : Int) = letter k := by
  have H : ∀ q : Fin 65, ((alphabet[q.val]'(by have := q.isLt; rw [alphabet_size]; exact this)).toNat : Int) = letter q.val := by decide +kernel
  exact H ⟨k, by rw [alphabet_size] at h; exact h⟩
theorem letter_ok (k : Nat) (h : k < 65) : okc (letter k) = true := by
  have H : ∀ q : Fin 65, okc (letter q.val) = true := by decide +kernel
  exact H ⟨k, h⟩
theorem letter_all (c : Int) (h0 : 0 ≤ c) (h1 : c ≤ 255) (h : okc c = true) : ∃ k, k < 65 ∧ letter k = c := by
  have H : ∀ q : Fin 256, okc ((q.val : Nat) : Int) = true → ∃ k : Fin 65, letter k.val = ((q.val : Nat) : Int) := by decide +kernel
  have e : ((c.toNat : Nat) : Int) = c := Int.toNat_of_nonneg h0
  obtain ⟨k, hk⟩ := H ⟨c.toNat, by omega⟩ (by simpa only [e] using h)
  exact ⟨k.val, k.isLt, by simpa only [e] using hk⟩
theorem hit (c : Int) (k : Nat) (h : k < alphabet.size) (e : (((alphabet[k]'h).toNat : Int) == c) = true) : okc c = true := by
  rw [alphabet_at k h] at e
  rw [← eq_of_beq e]
  exact letter_ok k h
theorem miss (c : Int) (k : Nat) (h : k < alphabet.size) (e : (((alphabet[k]'h).toNat : Int) == c) = false) : letter k ≠ c := by
  rw [alphabet_at k h] at e
  exact beq_eq_false_iff_ne.1 e

set_option maxHeartbeats 400000 in
theorem allowed_any (c : Int) (w : World) (h0 : 0 ≤ c) (h1 : c ≤ 255) :
    Calls Trym.prog 16 #[.int .u8 c] w fun e w' => e = .returned (.bool (okc c)) ∧ w' = w := by
  go_enter Trym.func16, Trym.ntmps16
  go_wp2
  go_loop [3] (fun i => ∃ k : Nat, k ≤ 65 ∧ i = .int .i64 k ∧ Hid (∀ j, j < k → letter j ≠ c)) (fun i => 65 - (intOf i).toNat)
  case atStart => exact ⟨0, Nat.zero_le _, rfl, fun j hj => absurd hj (by omega)⟩
  case round =>
    obtain ⟨k, hk, rfl, HK⟩ := hrel
    by_cases hlt : k < 65
    · go_wp2
      · go_ret
        exact ⟨ret_bool (hit c k hlt (by assumption)).symm, rfl⟩
      · have hm : letter k ≠ c := miss c k hlt (by assumption)
        go_round
        case rel => exact ⟨k + 1, by omega, by go_num, fun j hj => by
          by_cases h : j < k
          · exact HK.out j h
          · have : j = k := by omega
            rw [this]; exact hm⟩
        case measure => simp [intOf]; omega
    · go_wp2
      go_ret
      refine ⟨ret_bool ?_, rfl⟩
      rcases hb : okc c with _ | _
      · rfl
      · obtain ⟨j, hj, e⟩ := letter_all c h0 h1 hb
        exact absurd e (HK.out j (by omega))

end Go.Proofs.Qxb6602603aMods
