/-
  Seat b6602768aM: the walks of hasDotB1 (function 6), lastDotB1 (8), join (10), ZZjoin (7).
-/
import Derived.Test.Qxb6602768aModsRows
import Derived.WalkKit
import Derived.ProofKit
import Derived.OpenShut
import Derived.Outline
import Derived.WalkLawsBesides
namespace Go.Proofs.Qxb6602768aMods
open Go.ChangeShapes Go.WideShapes Go.ChangeAt Go.RowKit
set_option linter.unusedVariables false

theorem mkHid {p : Prop} (h : p) : Hid p := h
theorem ret_bool {a b : Bool} (h : a = b) : Ending.returned (.bool a) = .returned (.bool b) := by rw [h]

/-- No byte from k on (below n) is a dot. -/
def NoDot (s : ByteArray) (k n : Nat) : Prop := ∀ j (h : j < s.size), k ≤ j → j < n → ((s[j]'h).toNat : Int) ≠ 46

theorem hasDot_any (s : ByteArray) (w : World) (hs : s.size ≤ 9223372036854775807) :
    Calls Trym.prog 6 #[.string s] w fun e w' => (e = .returned (.bool false) ∧ w' = w ∧ Hid (NoDot s 0 s.size)) ∨ (e = .returned (.bool true) ∧ w' = w) := by
  go_enter Trym.func6, Trym.ntmps6
  go_wp2
  go_loop [3] (fun i => ∃ k : Nat, k ≤ s.size ∧ i = .int .i64 k ∧ Hid (NoDot s 0 k)) (fun i => s.size - (intOf i).toNat)
  case atStart => exact ⟨0, Nat.zero_le _, rfl, fun j h a b => absurd b (by omega)⟩
  case round =>
    obtain ⟨k, hk, rfl, HK⟩ := hrel
    by_cases hlt : k < s.size
    · go_wp2
      · go_ret
        exact .inr ⟨rfl, rfl⟩
      · have hm : (((s[k]'hlt).toNat : Int) == 46) = false := by assumption
        go_round
        case rel => exact ⟨k + 1, by omega, by go_num, fun j h a b => by
          by_cases hj : j < k
          · exact HK.out j h a hj
          · have e : j = k := by omega
            subst e
            exact beq_eq_false_iff_ne.1 hm⟩
        case measure => simp [intOf]; omega
    · have e : k = s.size := by omega
      subst e
      go_wp2
      go_ret
      first | exact .inl ⟨rfl, rfl, HK⟩ | exact .inl ⟨rfl, rfl⟩ | exact .inl rfl

theorem lastDot_none (s : ByteArray) (w : World) (hs : s.size ≤ 9223372036854775807) (hn : Hid (NoDot s 0 s.size)) :
    Calls Trym.prog 8 #[.string s] w fun e w' => e = .returned (.int .i64 (-1)) ∧ w' = w := by
  go_enter Trym.func8, Trym.ntmps8
  go_wp2
  go_loop [3] (fun i => (∃ q : Nat, q < s.size ∧ i = .int .i64 q) ∨ i = .int .i64 (-1)) (fun i => (intOf i + 1).toNat)
  case atStart =>
    by_cases h : s.size = 0
    · right; rw [h]; rfl
    · left; exact ⟨s.size - 1, by omega, by go_num⟩
  case round =>
    rcases hrel with ⟨q, hq, rfl⟩ | rfl
    · have hb := hn.out q hq (Nat.zero_le _) hq
      have hb' : (((s[q]'hq).toNat : Int) == 46) = false := beq_eq_false_iff_ne.2 hb
      clear hb
      go_wp2
      go_round
      case rel =>
        by_cases h : q = 0
        · right; subst h; rfl
        · left; exact ⟨q - 1, by omega, by go_num⟩
      case measure => simp [intOf]
    · go_wp2
      go_ret
      exact ⟨rfl, rfl⟩

theorem lastDot_at (s : ByteArray) (p : Nat) (w : World) (hs : s.size ≤ 9223372036854775807) (hp : p < s.size) (hd : ((s[p]'hp).toNat : Int) = 46) (hn : Hid (NoDot s (p + 1) s.size)) :
    Calls Trym.prog 8 #[.string s] w fun e w' => e = .returned (.int .i64 (p : Int)) ∧ w' = w := by
  have HD := mkHid hd
  clear hd
  go_enter Trym.func8, Trym.ntmps8
  go_wp2
  go_loop [3] (fun i => ∃ q : Nat, q < s.size ∧ p ≤ q ∧ i = .int .i64 q) (fun i => (intOf i + 1).toNat)
  case atStart => exact ⟨s.size - 1, by omega, by omega, by go_num⟩
  case round =>
    obtain ⟨q, hq, hpq, rfl⟩ := hrel
    by_cases h : q = p
    · subst h
      have hb' : (((s[q]'hq).toNat : Int) == 46) = true := beq_iff_eq.2 HD.out
      go_wp2
      go_ret
      exact ⟨rfl, rfl⟩
    · have hb' : (((s[q]'hq).toNat : Int) == 46) = false := beq_eq_false_iff_ne.2 (hn.out q hq (by omega) hq)
      go_wp2
      go_round
      case rel => exact ⟨q - 1, by omega, by omega, by go_num⟩
      case measure => simp [intOf]

/-- The joined string. -/
def joined (s t : ByteArray) : ByteArray := s ++ ⟨#[46]⟩ ++ t
theorem one_size : (⟨#[46]⟩ : ByteArray).size = 1 := rfl
theorem joined_size (s t : ByteArray) : (joined s t).size = s.size + 1 + t.size := by
  unfold joined
  rw [ByteArray.size_append, ByteArray.size_append, one_size]
theorem joined_left (s t : ByteArray) : (joined s t).extract 0 s.size = s := by
  unfold joined
  rw [ByteArray.append_assoc]
  exact ByteArray.extract_append_eq_left rfl
theorem joined_right (s t : ByteArray) : (joined s t).extract (s.size + 1) (joined s t).size = t := by
  rw [joined_size]
  unfold joined
  exact ByteArray.extract_append_eq_right (by rw [ByteArray.size_append, one_size]) (by rw [ByteArray.size_append, one_size])
theorem joined_dot (s t : ByteArray) (h : s.size < (joined s t).size) : (((joined s t)[s.size]'h).toNat : Int) = 46 := by
  have h1 : s.size < (s ++ ⟨#[46]⟩ : ByteArray).size := by rw [ByteArray.size_append, one_size]; omega
  have e : (joined s t)[s.size]'h = (s ++ ⟨#[46]⟩ : ByteArray)[s.size]'h1 := ByteArray.getElem_append_left h1
  have e2 : (s ++ ⟨#[46]⟩ : ByteArray)[s.size]'h1 = (⟨#[46]⟩ : ByteArray)[s.size - s.size]'(by rw [one_size]; omega) := ByteArray.getElem_append_right (Nat.le_refl _)
  rw [e, e2]
  simp
  rfl
theorem joined_nodot (s t : ByteArray) (hn : NoDot t 0 t.size) : NoDot (joined s t) (s.size + 1) (joined s t).size := by
  intro j h a b
  have hs : (s ++ ⟨#[46]⟩ : ByteArray).size = s.size + 1 := by rw [ByteArray.size_append, one_size]
  have hj : j - (s.size + 1) < t.size := by rw [joined_size] at b; omega
  have e : (joined s t)[j]'h = t[j - (s ++ ⟨#[46]⟩ : ByteArray).size]'(by rw [hs]; exact hj) := ByteArray.getElem_append_right (by rw [hs]; exact a)
  rw [e]
  exact hn _ _ (Nat.zero_le _) (by rw [hs]; exact hj)

theorem join_empty (s t : ByteArray) (w : World) (h : s.toList.isEmpty = true) :
    Calls Trym.prog 7 #[.string s, .string t] w fun e w' => e = .returned (.string t) ∧ w' = w := by
  go_enter Trym.func7, Trym.ntmps7
  go_wp2
  go_ret
  exact ⟨rfl, rfl⟩

theorem join_some (s t : ByteArray) (w : World) (hs : s.size ≤ 65536) (ht : t.size ≤ 65536) (h : s.toList.isEmpty = false) :
    Calls Trym.prog 7 #[.string s, .string t] w fun e w' => e = .returned (.string (joined s t)) ∧ w' = w := by
  go_enter Trym.func7, Trym.ntmps7
  go_wp2
  go_ret
  exact ⟨rfl, rfl⟩

end Go.Proofs.Qxb6602768aMods
