/-
  Seat b6602620aM: the walks of ifuB1InAlphabet (function 6), runPartsName (9) and ZZrunPartsName (7).
-/
import Derived.Test.Qxb6602620aModsRows
import Derived.WalkKit
import Derived.ProofKit
import Derived.OpenShut
import Derived.Outline
import Derived.WalkLawsBesides
namespace Go.Proofs.Qxb6602620aMods
open Go.ChangeShapes Go.WideShapes Go.ChangeAt Go.RowKit
set_option linter.unusedVariables false

theorem mkHid {p : Prop} (h : p) : Hid p := h
theorem ret_bool {a b : Bool} (h : a = b) : Ending.returned (.bool a) = .returned (.bool b) := by rw [h]

/-- The bytes that run-parts takes, as runPartsName's own test has them. -/
def okc (c : Int) : Bool := decide ((97 ≤ c ∧ c ≤ 122) ∨ (65 ≤ c ∧ c ≤ 90) ∨ (48 ≤ c ∧ c ≤ 57) ∨ c = 95 ∨ c = 45)

/-- The law's own alphabet. -/
abbrev alphabet : ByteArray := ⟨#[97, 98, 99, 100, 101, 102, 103, 104, 105, 106, 107, 108, 109, 110, 111, 112, 113, 114, 115, 116, 117, 118, 119, 120, 121, 122, 65, 66, 67, 68, 69, 70, 71, 72, 73, 74, 75, 76, 77, 78, 79, 80, 81, 82, 83, 84, 85, 86, 87, 88, 89, 90, 48, 49, 50, 51, 52, 53, 54, 55, 56, 57, 95, 45]⟩
def letter (k : Nat) : Int := ([97, 98, 99, 100, 101, 102, 103, 104, 105, 106, 107, 108, 109, 110, 111, 112, 113, 114, 115, 116, 117, 118, 119, 120, 121, 122, 65, 66, 67, 68, 69, 70, 71, 72, 73, 74, 75, 76, 77, 78, 79, 80, 81, 82, 83, 84, 85, 86, 87, 88, 89, 90, 48, 49, 50, 51, 52, 53, 54, 55, 56, 57, 95, 45] : List Int).getD k 0
theorem alphabet_size : alphabet.size = 64 := rfl
theorem alphabet_at (k : Nat) (h : k < alphabet.size) : ((alphabet[k]'h).toNat : Int) = letter k := by
  have H : ∀ q : Fin 64, ((alphabet[q.val]'(by have := q.isLt; rw [alphabet_size]; exact this)).toNat : Int) = letter q.val := by decide +kernel
  exact H ⟨k, by rw [alphabet_size] at h; exact h⟩
theorem letter_ok (k : Nat) (h : k < 64) : okc (letter k) = true := by
  have H : ∀ q : Fin 64, okc (letter q.val) = true := by decide +kernel
  exact H ⟨k, h⟩
theorem letter_all (c : Int) (h0 : 0 ≤ c) (h1 : c ≤ 255) (h : okc c = true) : ∃ k, k < 64 ∧ letter k = c := by
  have H : ∀ q : Fin 256, okc ((q.val : Nat) : Int) = true → ∃ k : Fin 64, letter k.val = ((q.val : Nat) : Int) := by decide +kernel
  have e : ((c.toNat : Nat) : Int) = c := Int.toNat_of_nonneg h0
  obtain ⟨k, hk⟩ := H ⟨c.toNat, by omega⟩ (by simpa only [e] using h)
  exact ⟨k.val, k.isLt, by simpa only [e] using hk⟩
theorem hit (c : Int) (k : Nat) (h : k < alphabet.size) (e : (((alphabet[k]'h).toNat : Int) == c) = true) : okc c = true := by
  rw [alphabet_at k h] at e
  rw [← eq_of_beq e]
  exact letter_ok k h
theorem miss (c : Int) (k : Nat) (h : k < alphabet.size) (e : (((alphabet[k]'h).toNat : Int) == c) = false) : letter k ≠ c := by
  rw [alphabet_at k h] at e
  exact beq_eq_false_iff_ne.1 e

set_option maxHeartbeats 400000 in
theorem allowed_any (c : Int) (w : World) (h0 : 0 ≤ c) (h1 : c ≤ 255) :
    Calls Trym.prog 6 #[.int .u8 c] w fun e w' => e = .returned (.bool (okc c)) ∧ w' = w := by
  go_enter Trym.func6, Trym.ntmps6
  go_wp2
  go_loop [3] (fun i => ∃ k : Nat, k ≤ 64 ∧ i = .int .i64 k ∧ Hid (∀ j, j < k → letter j ≠ c)) (fun i => 64 - (intOf i).toNat)
  case atStart => exact ⟨0, Nat.zero_le _, rfl, fun j hj => absurd hj (by omega)⟩
  case round =>
    obtain ⟨k, hk, rfl, HK⟩ := hrel
    by_cases hlt : k < 64
    · go_wp2
      · go_ret
        exact ⟨ret_bool (hit c k hlt (by assumption)).symm, rfl⟩
      · have hm : letter k ≠ c := miss c k hlt (by assumption)
        go_round
        case rel => exact ⟨k + 1, by omega, by go_num, fun j hj => by
          by_cases h : j < k
          · exact HK.out j h
          · have : j = k := by omega
            rw [this]; exact hm⟩
        case measure => simp [intOf]; omega
    · go_wp2
      go_ret
      refine ⟨ret_bool ?_, rfl⟩
      rcases hb : okc c with _ | _
      · rfl
      · obtain ⟨j, hj, e⟩ := letter_all c h0 h1 hb
        exact absurd e (HK.out j (by omega))

/-- A string's bytes as numbers. -/
def ints (s : ByteArray) : List Int := s.data.toList.map fun b => (b.toNat : Int)
theorem ints_length (s : ByteArray) : (ints s).length = s.size := by rw [ints, List.length_map, Array.length_toList]; rfl
theorem ints_bd (s : ByteArray) (k : Nat) : 0 ≤ (ints s).getD k 0 ∧ (ints s).getD k 0 ≤ 255 := by
  by_cases h : k < s.data.toList.length
  · have e : (ints s).getD k 0 = ((s.data.toList[k]).toNat : Int) := by simp [ints, List.getD]; rw [Array.getElem?_eq_getElem (by simpa using h)]; rfl
    have := (s.data.toList[k]).toNat_lt
    omega
  · have e : (ints s).getD k 0 = 0 := by simp [ints, List.getD]; rw [Array.getElem?_eq_none (by simpa using h)]; rfl
    omega
theorem ints_at (s : ByteArray) (k : Nat) (h : k < s.size) : ((s[k]'h).toNat : Int) = (ints s).getD k 0 := by
  have h' : k < s.data.size := h
  simp [ints, List.getD]
  rw [Array.getElem?_eq_getElem h']; rfl

/-- All of the first k bytes are taken. -/
def okTo (s : ByteArray) (k : Nat) : Bool := ((ints s).take k).all okc
theorem okTo_zero (s : ByteArray) : okTo s 0 = true := rfl
theorem okTo_succ (s : ByteArray) (k : Nat) (h : k < s.size) : okTo s (k + 1) = (okTo s k && okc ((ints s).getD k 0)) := by
  have hl : k < (ints s).length := by rw [ints_length]; exact h
  unfold okTo
  rw [List.take_succ_eq_append_getElem hl, List.all_append]
  simp [List.getD, hl]
/-- Not so at k: not so at the end. -/
theorem okTo_mono (s : ByteArray) (k n : Nat) (hkn : k ≤ n) (h : okTo s k = false) : okTo s n = false := by
  unfold okTo at h ⊢
  rw [List.all_eq_false] at h ⊢
  obtain ⟨x, hx, hn⟩ := h
  have : (ints s).take k = ((ints s).take n).take k := by rw [List.take_take, Nat.min_eq_left hkn]
  rw [this] at hx
  exact ⟨x, List.mem_of_mem_take hx, hn⟩

/-- What runPartsName answers. -/
def rp (s : ByteArray) : Bool := okTo s s.size && !s.toList.isEmpty

set_option maxRecDepth 100000 in
set_option maxHeartbeats 4000000 in
theorem rp_any (s : ByteArray) (w : World) (hs : s.size ≤ 9223372036854775807) :
    Calls Trym.prog 9 #[.string s] w fun e w' => e = .returned (.bool (rp s)) ∧ w' = w := by
  go_enter Trym.func9, Trym.ntmps9
  go_wp2
  go_loop [3] (fun i => ∃ k : Nat, k ≤ s.size ∧ i = .int .i64 k ∧ Hid (okTo s k = true)) (fun i => s.size - (intOf i).toNat)
  case atStart => exact ⟨0, Nat.zero_le _, rfl, rfl⟩
  case round =>
    obtain ⟨k, hk, rfl, HK⟩ := hrel
    by_cases hlt : k < s.size
    · have hbd := ints_bd s k
      have hat := ints_at s k hlt
      rw [← hat] at hbd
      obtain ⟨hb0, hb1⟩ := hbd
      have hcase : (0 ≤ ((s[k]'hlt).toNat : Int) ∧ ((s[k]'hlt).toNat : Int) ≤ 44) ∨ (45 ≤ ((s[k]'hlt).toNat : Int) ∧ ((s[k]'hlt).toNat : Int) ≤ 45) ∨ (46 ≤ ((s[k]'hlt).toNat : Int) ∧ ((s[k]'hlt).toNat : Int) ≤ 47) ∨ (48 ≤ ((s[k]'hlt).toNat : Int) ∧ ((s[k]'hlt).toNat : Int) ≤ 57) ∨ (58 ≤ ((s[k]'hlt).toNat : Int) ∧ ((s[k]'hlt).toNat : Int) ≤ 64) ∨ (65 ≤ ((s[k]'hlt).toNat : Int) ∧ ((s[k]'hlt).toNat : Int) ≤ 90) ∨ (91 ≤ ((s[k]'hlt).toNat : Int) ∧ ((s[k]'hlt).toNat : Int) ≤ 94) ∨ (95 ≤ ((s[k]'hlt).toNat : Int) ∧ ((s[k]'hlt).toNat : Int) ≤ 95) ∨ (96 ≤ ((s[k]'hlt).toNat : Int) ∧ ((s[k]'hlt).toNat : Int) ≤ 96) ∨ (97 ≤ ((s[k]'hlt).toNat : Int) ∧ ((s[k]'hlt).toNat : Int) ≤ 122) ∨ (123 ≤ ((s[k]'hlt).toNat : Int) ∧ ((s[k]'hlt).toNat : Int) ≤ 255) := by omega
      rcases hcase with ⟨hq, hq'⟩ | ⟨hq, hq'⟩ | ⟨hq, hq'⟩ | ⟨hq, hq'⟩ | ⟨hq, hq'⟩ | ⟨hq, hq'⟩ | ⟨hq, hq'⟩ | ⟨hq, hq'⟩ | ⟨hq, hq'⟩ | ⟨hq, hq'⟩ | ⟨hq, hq'⟩
      · have f0 : decide ((97 : Int) ≤ ((s[k]'hlt).toNat : Int)) = false := decide_eq_false (by omega)
        have f1 : decide (((s[k]'hlt).toNat : Int) ≤ (122 : Int)) = true := decide_eq_true (by omega)
        have f2 : decide ((65 : Int) ≤ ((s[k]'hlt).toNat : Int)) = false := decide_eq_false (by omega)
        have f3 : decide (((s[k]'hlt).toNat : Int) ≤ (90 : Int)) = true := decide_eq_true (by omega)
        have f4 : decide ((48 : Int) ≤ ((s[k]'hlt).toNat : Int)) = false := decide_eq_false (by omega)
        have f5 : decide (((s[k]'hlt).toNat : Int) ≤ (57 : Int)) = true := decide_eq_true (by omega)
        have g0 : (((s[k]'hlt).toNat : Int) == 95) = false := beq_eq_false_iff_ne.2 (by omega)
        have g1 : (((s[k]'hlt).toNat : Int) == 45) = false := beq_eq_false_iff_ne.2 (by omega)
        have ho : Hid (okc ((ints s).getD k 0) = false) := decide_eq_false (by omega)
        clear hat hq hq'
        go_wp2
        go_ret
        exact ⟨ret_bool (by rw [rp, okTo_mono s (k + 1) s.size (by omega) (by rw [okTo_succ s k hlt, ho.out, Bool.and_false])]; rfl), rfl⟩
      · have f0 : decide ((97 : Int) ≤ ((s[k]'hlt).toNat : Int)) = false := decide_eq_false (by omega)
        have f1 : decide (((s[k]'hlt).toNat : Int) ≤ (122 : Int)) = true := decide_eq_true (by omega)
        have f2 : decide ((65 : Int) ≤ ((s[k]'hlt).toNat : Int)) = false := decide_eq_false (by omega)
        have f3 : decide (((s[k]'hlt).toNat : Int) ≤ (90 : Int)) = true := decide_eq_true (by omega)
        have f4 : decide ((48 : Int) ≤ ((s[k]'hlt).toNat : Int)) = false := decide_eq_false (by omega)
        have f5 : decide (((s[k]'hlt).toNat : Int) ≤ (57 : Int)) = true := decide_eq_true (by omega)
        have g0 : (((s[k]'hlt).toNat : Int) == 95) = false := beq_eq_false_iff_ne.2 (by omega)
        have g1 : (((s[k]'hlt).toNat : Int) == 45) = true := beq_iff_eq.2 (by omega)
        have ho : Hid (okc ((ints s).getD k 0) = true) := decide_eq_true (by omega)
        clear hat hq hq'
        go_wp2
        go_round
        case rel => exact ⟨k + 1, by omega, by go_num, by rw [Hid, okTo_succ s k hlt, HK.out, ho.out]; rfl⟩
        case measure => simp [intOf]; omega
      · have f0 : decide ((97 : Int) ≤ ((s[k]'hlt).toNat : Int)) = false := decide_eq_false (by omega)
        have f1 : decide (((s[k]'hlt).toNat : Int) ≤ (122 : Int)) = true := decide_eq_true (by omega)
        have f2 : decide ((65 : Int) ≤ ((s[k]'hlt).toNat : Int)) = false := decide_eq_false (by omega)
        have f3 : decide (((s[k]'hlt).toNat : Int) ≤ (90 : Int)) = true := decide_eq_true (by omega)
        have f4 : decide ((48 : Int) ≤ ((s[k]'hlt).toNat : Int)) = false := decide_eq_false (by omega)
        have f5 : decide (((s[k]'hlt).toNat : Int) ≤ (57 : Int)) = true := decide_eq_true (by omega)
        have g0 : (((s[k]'hlt).toNat : Int) == 95) = false := beq_eq_false_iff_ne.2 (by omega)
        have g1 : (((s[k]'hlt).toNat : Int) == 45) = false := beq_eq_false_iff_ne.2 (by omega)
        have ho : Hid (okc ((ints s).getD k 0) = false) := decide_eq_false (by omega)
        clear hat hq hq'
        go_wp2
        go_ret
        exact ⟨ret_bool (by rw [rp, okTo_mono s (k + 1) s.size (by omega) (by rw [okTo_succ s k hlt, ho.out, Bool.and_false])]; rfl), rfl⟩
      · have f0 : decide ((97 : Int) ≤ ((s[k]'hlt).toNat : Int)) = false := decide_eq_false (by omega)
        have f1 : decide (((s[k]'hlt).toNat : Int) ≤ (122 : Int)) = true := decide_eq_true (by omega)
        have f2 : decide ((65 : Int) ≤ ((s[k]'hlt).toNat : Int)) = false := decide_eq_false (by omega)
        have f3 : decide (((s[k]'hlt).toNat : Int) ≤ (90 : Int)) = true := decide_eq_true (by omega)
        have f4 : decide ((48 : Int) ≤ ((s[k]'hlt).toNat : Int)) = true := decide_eq_true (by omega)
        have f5 : decide (((s[k]'hlt).toNat : Int) ≤ (57 : Int)) = true := decide_eq_true (by omega)
        have g0 : (((s[k]'hlt).toNat : Int) == 95) = false := beq_eq_false_iff_ne.2 (by omega)
        have g1 : (((s[k]'hlt).toNat : Int) == 45) = false := beq_eq_false_iff_ne.2 (by omega)
        have ho : Hid (okc ((ints s).getD k 0) = true) := decide_eq_true (by omega)
        clear hat hq hq'
        go_wp2
        go_round
        case rel => exact ⟨k + 1, by omega, by go_num, by rw [Hid, okTo_succ s k hlt, HK.out, ho.out]; rfl⟩
        case measure => simp [intOf]; omega
      · have f0 : decide ((97 : Int) ≤ ((s[k]'hlt).toNat : Int)) = false := decide_eq_false (by omega)
        have f1 : decide (((s[k]'hlt).toNat : Int) ≤ (122 : Int)) = true := decide_eq_true (by omega)
        have f2 : decide ((65 : Int) ≤ ((s[k]'hlt).toNat : Int)) = false := decide_eq_false (by omega)
        have f3 : decide (((s[k]'hlt).toNat : Int) ≤ (90 : Int)) = true := decide_eq_true (by omega)
        have f4 : decide ((48 : Int) ≤ ((s[k]'hlt).toNat : Int)) = true := decide_eq_true (by omega)
        have f5 : decide (((s[k]'hlt).toNat : Int) ≤ (57 : Int)) = false := decide_eq_false (by omega)
        have g0 : (((s[k]'hlt).toNat : Int) == 95) = false := beq_eq_false_iff_ne.2 (by omega)
        have g1 : (((s[k]'hlt).toNat : Int) == 45) = false := beq_eq_false_iff_ne.2 (by omega)
        have ho : Hid (okc ((ints s).getD k 0) = false) := decide_eq_false (by omega)
        clear hat hq hq'
        go_wp2
        go_ret
        exact ⟨ret_bool (by rw [rp, okTo_mono s (k + 1) s.size (by omega) (by rw [okTo_succ s k hlt, ho.out, Bool.and_false])]; rfl), rfl⟩
      · have f0 : decide ((97 : Int) ≤ ((s[k]'hlt).toNat : Int)) = false := decide_eq_false (by omega)
        have f1 : decide (((s[k]'hlt).toNat : Int) ≤ (122 : Int)) = true := decide_eq_true (by omega)
        have f2 : decide ((65 : Int) ≤ ((s[k]'hlt).toNat : Int)) = true := decide_eq_true (by omega)
        have f3 : decide (((s[k]'hlt).toNat : Int) ≤ (90 : Int)) = true := decide_eq_true (by omega)
        have f4 : decide ((48 : Int) ≤ ((s[k]'hlt).toNat : Int)) = true := decide_eq_true (by omega)
        have f5 : decide (((s[k]'hlt).toNat : Int) ≤ (57 : Int)) = false := decide_eq_false (by omega)
        have g0 : (((s[k]'hlt).toNat : Int) == 95) = false := beq_eq_false_iff_ne.2 (by omega)
        have g1 : (((s[k]'hlt).toNat : Int) == 45) = false := beq_eq_false_iff_ne.2 (by omega)
        have ho : Hid (okc ((ints s).getD k 0) = true) := decide_eq_true (by omega)
        clear hat hq hq'
        go_wp2
        go_round
        case rel => exact ⟨k + 1, by omega, by go_num, by rw [Hid, okTo_succ s k hlt, HK.out, ho.out]; rfl⟩
        case measure => simp [intOf]; omega
      · have f0 : decide ((97 : Int) ≤ ((s[k]'hlt).toNat : Int)) = false := decide_eq_false (by omega)
        have f1 : decide (((s[k]'hlt).toNat : Int) ≤ (122 : Int)) = true := decide_eq_true (by omega)
        have f2 : decide ((65 : Int) ≤ ((s[k]'hlt).toNat : Int)) = true := decide_eq_true (by omega)
        have f3 : decide (((s[k]'hlt).toNat : Int) ≤ (90 : Int)) = false := decide_eq_false (by omega)
        have f4 : decide ((48 : Int) ≤ ((s[k]'hlt).toNat : Int)) = true := decide_eq_true (by omega)
        have f5 : decide (((s[k]'hlt).toNat : Int) ≤ (57 : Int)) = false := decide_eq_false (by omega)
        have g0 : (((s[k]'hlt).toNat : Int) == 95) = false := beq_eq_false_iff_ne.2 (by omega)
        have g1 : (((s[k]'hlt).toNat : Int) == 45) = false := beq_eq_false_iff_ne.2 (by omega)
        have ho : Hid (okc ((ints s).getD k 0) = false) := decide_eq_false (by omega)
        clear hat hq hq'
        go_wp2
        go_ret
        exact ⟨ret_bool (by rw [rp, okTo_mono s (k + 1) s.size (by omega) (by rw [okTo_succ s k hlt, ho.out, Bool.and_false])]; rfl), rfl⟩
      · have f0 : decide ((97 : Int) ≤ ((s[k]'hlt).toNat : Int)) = false := decide_eq_false (by omega)
        have f1 : decide (((s[k]'hlt).toNat : Int) ≤ (122 : Int)) = true := decide_eq_true (by omega)
        have f2 : decide ((65 : Int) ≤ ((s[k]'hlt).toNat : Int)) = true := decide_eq_true (by omega)
        have f3 : decide (((s[k]'hlt).toNat : Int) ≤ (90 : Int)) = false := decide_eq_false (by omega)
        have f4 : decide ((48 : Int) ≤ ((s[k]'hlt).toNat : Int)) = true := decide_eq_true (by omega)
        have f5 : decide (((s[k]'hlt).toNat : Int) ≤ (57 : Int)) = false := decide_eq_false (by omega)
        have g0 : (((s[k]'hlt).toNat : Int) == 95) = true := beq_iff_eq.2 (by omega)
        have g1 : (((s[k]'hlt).toNat : Int) == 45) = false := beq_eq_false_iff_ne.2 (by omega)
        have ho : Hid (okc ((ints s).getD k 0) = true) := decide_eq_true (by omega)
        clear hat hq hq'
        go_wp2
        go_round
        case rel => exact ⟨k + 1, by omega, by go_num, by rw [Hid, okTo_succ s k hlt, HK.out, ho.out]; rfl⟩
        case measure => simp [intOf]; omega
      · have f0 : decide ((97 : Int) ≤ ((s[k]'hlt).toNat : Int)) = false := decide_eq_false (by omega)
        have f1 : decide (((s[k]'hlt).toNat : Int) ≤ (122 : Int)) = true := decide_eq_true (by omega)
        have f2 : decide ((65 : Int) ≤ ((s[k]'hlt).toNat : Int)) = true := decide_eq_true (by omega)
        have f3 : decide (((s[k]'hlt).toNat : Int) ≤ (90 : Int)) = false := decide_eq_false (by omega)
        have f4 : decide ((48 : Int) ≤ ((s[k]'hlt).toNat : Int)) = true := decide_eq_true (by omega)
        have f5 : decide (((s[k]'hlt).toNat : Int) ≤ (57 : Int)) = false := decide_eq_false (by omega)
        have g0 : (((s[k]'hlt).toNat : Int) == 95) = false := beq_eq_false_iff_ne.2 (by omega)
        have g1 : (((s[k]'hlt).toNat : Int) == 45) = false := beq_eq_false_iff_ne.2 (by omega)
        have ho : Hid (okc ((ints s).getD k 0) = false) := decide_eq_false (by omega)
        clear hat hq hq'
        go_wp2
        go_ret
        exact ⟨ret_bool (by rw [rp, okTo_mono s (k + 1) s.size (by omega) (by rw [okTo_succ s k hlt, ho.out, Bool.and_false])]; rfl), rfl⟩
      · have f0 : decide ((97 : Int) ≤ ((s[k]'hlt).toNat : Int)) = true := decide_eq_true (by omega)
        have f1 : decide (((s[k]'hlt).toNat : Int) ≤ (122 : Int)) = true := decide_eq_true (by omega)
        have f2 : decide ((65 : Int) ≤ ((s[k]'hlt).toNat : Int)) = true := decide_eq_true (by omega)
        have f3 : decide (((s[k]'hlt).toNat : Int) ≤ (90 : Int)) = false := decide_eq_false (by omega)
        have f4 : decide ((48 : Int) ≤ ((s[k]'hlt).toNat : Int)) = true := decide_eq_true (by omega)
        have f5 : decide (((s[k]'hlt).toNat : Int) ≤ (57 : Int)) = false := decide_eq_false (by omega)
        have g0 : (((s[k]'hlt).toNat : Int) == 95) = false := beq_eq_false_iff_ne.2 (by omega)
        have g1 : (((s[k]'hlt).toNat : Int) == 45) = false := beq_eq_false_iff_ne.2 (by omega)
        have ho : Hid (okc ((ints s).getD k 0) = true) := decide_eq_true (by omega)
        clear hat hq hq'
        go_wp2
        go_round
        case rel => exact ⟨k + 1, by omega, by go_num, by rw [Hid, okTo_succ s k hlt, HK.out, ho.out]; rfl⟩
        case measure => simp [intOf]; omega
      · have f0 : decide ((97 : Int) ≤ ((s[k]'hlt).toNat : Int)) = true := decide_eq_true (by omega)
        have f1 : decide (((s[k]'hlt).toNat : Int) ≤ (122 : Int)) = false := decide_eq_false (by omega)
        have f2 : decide ((65 : Int) ≤ ((s[k]'hlt).toNat : Int)) = true := decide_eq_true (by omega)
        have f3 : decide (((s[k]'hlt).toNat : Int) ≤ (90 : Int)) = false := decide_eq_false (by omega)
        have f4 : decide ((48 : Int) ≤ ((s[k]'hlt).toNat : Int)) = true := decide_eq_true (by omega)
        have f5 : decide (((s[k]'hlt).toNat : Int) ≤ (57 : Int)) = false := decide_eq_false (by omega)
        have g0 : (((s[k]'hlt).toNat : Int) == 95) = false := beq_eq_false_iff_ne.2 (by omega)
        have g1 : (((s[k]'hlt).toNat : Int) == 45) = false := beq_eq_false_iff_ne.2 (by omega)
        have ho : Hid (okc ((ints s).getD k 0) = false) := decide_eq_false (by omega)
        clear hat hq hq'
        go_wp2
        go_ret
        exact ⟨ret_bool (by rw [rp, okTo_mono s (k + 1) s.size (by omega) (by rw [okTo_succ s k hlt, ho.out, Bool.and_false])]; rfl), rfl⟩
    · go_wp2
      go_ret
      have e : k = s.size := by omega
      have h := HK.out
      rw [e] at h
      exact ⟨ret_bool (by rw [rp, h]; rfl), rfl⟩

theorem rp7_any (s : ByteArray) (w : World) (hs : s.size ≤ 9223372036854775807) :
    Calls Trym.prog 7 #[.string s] w fun e w' => e = .returned (.bool (rp s)) ∧ w' = w := by
  have H := rp_any s w hs
  go_enter Trym.func7, Trym.ntmps7
  go_wp2_with fail
  refine H.mono ?_
  rintro e w' ⟨rfl, hw⟩
  subst w'
  clear H
  go_wp2
  go_ret
  exact ⟨rfl, rfl⟩

end Go.Proofs.Qxb6602620aMods
