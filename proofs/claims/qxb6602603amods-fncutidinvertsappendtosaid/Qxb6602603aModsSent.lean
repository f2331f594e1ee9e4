import Derived.Test.Qxb6602603aModsPacket
import Derived.Laws.BytesArg
namespace Go.Proofs.Qxb6602603aMods
open Go.ChangeShapes Go.WideShapes Go.ChangeAt Go.RowKit
set_option linter.unusedVariables false

theorem getD_left (a b : List Int) (i : Nat) (h : i < a.length) : (a ++ b).getD i 0 = a.getD i 0 := by
  simp [List.getD, List.getElem?_append_left h]
theorem getD_right (a b : List Int) (i : Nat) : (a ++ b).getD (a.length + i) 0 = b.getD i 0 := by
  simp [List.getD, List.getElem?_append_right (Nat.le_add_right a.length i)]

section
variable (xs0 body : List Int) (src dst : ByteArray) (ttl kind : Int)
theorem sent_eq : sent xs0 body src dst ttl kind = xs0 ++ ((src.size : Int) :: (ints src ++ ((dst.size : Int) :: (ints dst ++ (ttl :: kind :: body))))) := by
  simp [sent]
theorem sent0 : (sent xs0 body src dst ttl kind).getD xs0.length 0 = src.size := by
  rw [sent_eq]
  have := getD_right xs0 ((src.size : Int) :: (ints src ++ ((dst.size : Int) :: (ints dst ++ (ttl :: kind :: body))))) 0
  exact this
theorem sent1 (i : Nat) : (sent xs0 body src dst ttl kind).getD (xs0.length + (1 + i)) 0 = (ints src ++ ((dst.size : Int) :: (ints dst ++ (ttl :: kind :: body)))).getD i 0 := by
  rw [sent_eq, getD_right, Nat.add_comm 1 i, List.getD_cons_succ]
theorem sent1' (i : Nat) (h : i < src.size) : (sent xs0 body src dst ttl kind).getD (xs0.length + (1 + i)) 0 = (ints src).getD i 0 := by
  rw [sent1, getD_left _ _ _ (by rw [ints_length]; exact h)]
theorem sent2 (i : Nat) : (sent xs0 body src dst ttl kind).getD (xs0.length + (1 + (src.size + i))) 0 = ((dst.size : Int) :: (ints dst ++ (ttl :: kind :: body))).getD i 0 := by
  rw [sent1, ← ints_length src, getD_right]
theorem sent3 (i : Nat) : (sent xs0 body src dst ttl kind).getD (xs0.length + (1 + (src.size + (1 + i)))) 0 = (ints dst ++ (ttl :: kind :: body)).getD i 0 := by
  rw [sent2, Nat.add_comm 1 i, List.getD_cons_succ]
theorem sent3' (i : Nat) (h : i < dst.size) : (sent xs0 body src dst ttl kind).getD (xs0.length + (1 + (src.size + (1 + i)))) 0 = (ints dst).getD i 0 := by
  rw [sent3, getD_left _ _ _ (by rw [ints_length]; exact h)]
theorem sent4 (i : Nat) : (sent xs0 body src dst ttl kind).getD (xs0.length + (1 + (src.size + (1 + (dst.size + i))))) 0 = (ttl :: kind :: body).getD i 0 := by
  rw [sent3, ← ints_length dst, getD_right]
end

theorem str_ints (s : ByteArray) : strOfNums (ints s) = s := by
  cases s with
  | mk d =>
    unfold strOfNums ints
    congr 1
    rw [List.map_map]
    have : ∀ b ∈ d.toList, ((fun n : Int => UInt8.ofNat n.toNat) ∘ fun b : UInt8 => (b.toNat : Int)) b = id b := fun b _ => by
      simp [Function.comp]
    rw [List.map_congr_left this, List.map_id, Array.toArray_toList]

theorem zz11_yes (s t : ByteArray) (x y : Int) (a b : Option Addr) (n cn m cm : Nat) (w : World) (h : s.size + t.size + n + m ≤ 1048576) :
    Calls Trym.prog 11 #[.string s, .string t, .int .u8 x, .int .u8 y, .slice a n cn, .slice b m cm] w fun e w' => e = .returned (.bool true) ∧ w' = w := by
  go_enter Trym.func11, Trym.ntmps11
  go_wp2
  go_ret
  exact ⟨rfl, rfl⟩

theorem zz11_no (s t : ByteArray) (x y : Int) (a b : Option Addr) (n cn m cm : Nat) (w : World) (hs : s.size ≤ 9223372036854775807) (ht : t.size ≤ 9223372036854775807) (hn : n ≤ 9223372036854775807) (hm : m ≤ 9223372036854775807)
    (h : 1048576 < s.size + t.size + n + m) :
    Calls Trym.prog 11 #[.string s, .string t, .int .u8 x, .int .u8 y, .slice a n cn, .slice b m cm] w fun e w' => e = .returned (.bool false) ∧ w' = w := by
  by_cases h1 : 1048576 < s.size
  · go_enter Trym.func11, Trym.ntmps11
    go_wp2
    go_ret
    exact ⟨rfl, rfl⟩
  by_cases h2 : 1048576 < t.size
  · go_enter Trym.func11, Trym.ntmps11
    go_wp2
    go_ret
    exact ⟨rfl, rfl⟩
  by_cases h3 : 1048576 < s.size + t.size
  · go_enter Trym.func11, Trym.ntmps11
    go_wp2
    go_ret
    exact ⟨rfl, rfl⟩
  by_cases h4 : 1048576 < n
  · go_enter Trym.func11, Trym.ntmps11
    go_wp2
    go_ret
    exact ⟨rfl, rfl⟩
  by_cases h5 : 1048576 < s.size + t.size + n
  · go_enter Trym.func11, Trym.ntmps11
    go_wp2
    go_ret
    exact ⟨rfl, rfl⟩
  by_cases h6 : 1048576 < m
  · go_enter Trym.func11, Trym.ntmps11
    go_wp2
    go_ret
    exact ⟨rfl, rfl⟩
  go_enter Trym.func11, Trym.ntmps11
  go_wp2
  go_ret
  exact ⟨rfl, rfl⟩

end Go.Proofs.Qxb6602603aMods
