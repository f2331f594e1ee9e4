import Derived.Test.Qxb6602603aModsIds
import Derived.Laws.BytesArg
import Derived.RegionTactic
import Derived.Deep.RegionWith
import Derived.Deep.QuietTactic
import Derived.BigQuiet
import Derived.BigRegion
namespace Go.Proofs.Qxb6602603aMods
open Go.ChangeShapes Go.WideShapes Go.ChangeAt Go.RowKit
set_option linter.unusedVariables false

theorem cut_nil (a : Option Addr) (c : Nat) (w : World) : Calls Trym.prog 15 #[.slice a 0 c] w fun e w' => e = .returned (.tuple #[.string ByteArray.empty, .slice none 0 0, .bool false]) ∧ w' = w := by
  go_enter Trym.func15, Trym.ntmps15
  go_wp2
  go_ret3
  exact ⟨rfl, rfl⟩

theorem cut_short (g f len cap n : Nat) (w : World) (hlen : len ≤ 2097152) (h0 : 0 < len) (hn : n ≤ 255) (hc0 : w.cell? ⟨g, f, none⟩ = some (.int .u8 (n : Int))) (hs : len < 1 + n) :
    Calls Trym.prog 15 #[.slice (some ⟨g, f, none⟩) len cap] w fun e w' => e = .returned (.tuple #[.string ByteArray.empty, .slice none 0 0, .bool false]) ∧ w' = w := by
  have hp : ((len : Int) == 0) = false := beq_eq_false_iff_ne.2 (by omega)
  have hp0 : (0 : Int) < (len : Int) := by omega
  go_enter Trym.func15, Trym.ntmps15
  go_wp2
  go_ret3
  exact ⟨rfl, rfl⟩

set_option maxHeartbeats 1000000 in
theorem cut_exact (g f n : Nat) (xs : List Int) (w : World) (hn : n ≤ 255) (hc0 : w.cell? ⟨g, f, none⟩ = some (.int .u8 (n : Int)))
    (hx : xs.length = n) (hc : ∀ i, i < n → w.cell? ⟨g, f + 1 + i, none⟩ = some (.int .u8 (xs.getD i 0))) :
    Calls Trym.prog 15 #[.slice (some ⟨g, f, none⟩) (1 + n) (1 + n)] w fun e w' => e = .returned (.tuple #[.string (strOfNums xs), .slice (some ⟨g, f, none⟩) 0 0, .bool (okID (strOfNums xs))]) ∧ Below w.heap.size w w' := by
  have hsz : (strOfNums xs).size ≤ 9223372036854775807 := by rw [strOfNums_size]; omega
  by_cases hn0 : n = 0
  · subst hn0
    obtain rfl : xs = [] := List.eq_nil_of_length_eq_zero hx
    have hcv2 : ∀ c : Nat, (convert 22 9 (.slice (some ⟨g, f, none⟩) 0 c)).run Trym.prog w = .ok (.string (strOfNums [])) w := fun c =>
      run_convert_bytes_arg w 22 5 Trym.underlying22 Trym.underlying5 g f 0 c [] rfl (fun i hi => absurd hi (by omega)) 9 Trym.underlying9
    go_enter Trym.func15, Trym.ntmps15
    go_wp2
    go_region_with (go_at_call 19; refine (node_any _ _ hsz).mono ?_; rintro e w' ⟨rfl, hb⟩)
    all_goals
      go_wp2
      go_ret3
      exact ⟨rfl, ((Below.refl w.heap.size w).drew).trans hb⟩
  · have hcv1 : ∀ c : Nat, (convert 22 9 (.slice (some ⟨g, f + 1, none⟩) n c)).run Trym.prog w = .ok (.string (strOfNums xs)) w := fun c =>
      run_convert_bytes_arg w 22 5 Trym.underlying22 Trym.underlying5 g (f + 1) n c xs hx hc 9 Trym.underlying9
    have hp : (((1 + n : Nat) : Int) == 0) = false := beq_eq_false_iff_ne.2 (by omega)
    have hp0 : (0 : Int) < ((1 + n : Nat) : Int) := by omega
    clear hx hc
    go_enter Trym.func15, Trym.ntmps15
    go_wp2
    go_region_with (go_at_call 19; refine (node_any _ _ hsz).mono ?_; rintro e w' ⟨rfl, hb⟩)
    all_goals
      go_wp2
      go_ret3
      exact ⟨rfl, ((Below.refl w.heap.size w).drew).trans hb⟩

set_option maxHeartbeats 1000000 in
theorem cut_long (g f len cap n : Nat) (xs : List Int) (w : World) (hlen : len ≤ cap) (hcap : cap ≤ 9223372036854775807) (hn : n ≤ 255) (hc0 : w.cell? ⟨g, f, none⟩ = some (.int .u8 (n : Int))) (hs : 1 + n ≤ len)
    (hx : xs.length = n) (hc : ∀ i, i < n → w.cell? ⟨g, f + 1 + i, none⟩ = some (.int .u8 (xs.getD i 0))) :
    Calls Trym.prog 15 #[.slice (some ⟨g, f, none⟩) len cap] w fun e w' => ∃ ar, e = .returned (.tuple #[.string (strOfNums xs), .slice (some ar) (len - (1 + n)) (cap - (1 + n)), .bool (okID (strOfNums xs))]) ∧ Below w.heap.size w w' ∧
      (len = 1 + n ∨ ar = ⟨g, f + (1 + n), none⟩) := by
  have hp : ((len : Int) == 0) = false := beq_eq_false_iff_ne.2 (by omega)
  have hp0 : (0 : Int) < (len : Int) := by omega
  have hsz : (strOfNums xs).size ≤ 9223372036854775807 := by rw [strOfNums_size]; omega
  by_cases hce : cap = 1 + n
  · obtain rfl : len = 1 + n := by omega
    subst hce
    exact (cut_exact g f n xs w hn hc0 hx hc).mono fun e w' ⟨he, hb⟩ => ⟨⟨g, f, none⟩, by rw [he, Nat.sub_self], hb, .inl rfl⟩
  · have hcv1 : ∀ c : Nat, (convert 22 9 (.slice (some ⟨g, f + 1, none⟩) n c)).run Trym.prog w = .ok (.string (strOfNums xs)) w := fun c =>
      run_convert_bytes_arg w 22 5 Trym.underlying22 Trym.underlying5 g (f + 1) n c xs hx hc 9 Trym.underlying9
    have hcap1 : ¬ cap = 1 := by omega
    clear hx hc
    go_enter Trym.func15, Trym.ntmps15
    go_wp2
    go_region_with (go_at_call 19; refine (node_any _ _ hsz).mono ?_; rintro e w' ⟨rfl, hb⟩)
    all_goals
      go_wp2
      go_ret3
      exact ⟨_, rfl, ((Below.refl w.heap.size w).drew).trans hb, .inr rfl⟩

/-- ZZcutID hands on what cutID gives. -/
theorem cut8_nil (a : Option Addr) (c : Nat) (w : World) : Calls Trym.prog 8 #[.slice a 0 c] w fun e w' => e = .returned (.tuple #[.string ByteArray.empty, .slice none 0 0, .bool false]) ∧ w' = w := by
  have H := cut_nil a c w
  go_enter Trym.func8, Trym.ntmps8
  go_wp2_with fail
  refine H.mono ?_
  rintro e w' ⟨rfl, hw⟩
  subst w'
  clear H
  go_wp2
  go_ret3
  exact ⟨rfl, rfl⟩

theorem cut8_short (g f len cap n : Nat) (w : World) (hlen : len ≤ 2097152) (h0 : 0 < len) (hn : n ≤ 255) (hc0 : w.cell? ⟨g, f, none⟩ = some (.int .u8 (n : Int))) (hs : len < 1 + n) :
    Calls Trym.prog 8 #[.slice (some ⟨g, f, none⟩) len cap] w fun e w' => e = .returned (.tuple #[.string ByteArray.empty, .slice none 0 0, .bool false]) ∧ w' = w := by
  have H := cut_short g f len cap n w hlen h0 hn hc0 hs
  go_enter Trym.func8, Trym.ntmps8
  go_wp2_with fail
  refine H.mono ?_
  rintro e w' ⟨rfl, hw⟩
  subst w'
  clear H
  go_wp2
  go_ret3
  exact ⟨rfl, rfl⟩

theorem cut8_long (g f len cap n : Nat) (xs : List Int) (w : World) (hlen : len ≤ cap) (hcap : cap ≤ 9223372036854775807) (hn : n ≤ 255) (hc0 : w.cell? ⟨g, f, none⟩ = some (.int .u8 (n : Int))) (hs : 1 + n ≤ len)
    (hx : xs.length = n) (hc : ∀ i, i < n → w.cell? ⟨g, f + 1 + i, none⟩ = some (.int .u8 (xs.getD i 0))) :
    Calls Trym.prog 8 #[.slice (some ⟨g, f, none⟩) len cap] w fun e w' => ∃ ar, e = .returned (.tuple #[.string (strOfNums xs), .slice (some ar) (len - (1 + n)) (cap - (1 + n)), .bool (okID (strOfNums xs))]) ∧ Below w.heap.size w w' ∧
      (len = 1 + n ∨ ar = ⟨g, f + (1 + n), none⟩) := by
  have H := mkHid (cut_long g f len cap n xs w hlen hcap hn hc0 hs hx hc)
  clear hc0 hx hc
  go_enter Trym.func8, Trym.ntmps8
  go_wp2_with fail
  refine H.out.mono ?_
  rintro e w' ⟨ar, rfl, hb, ha⟩
  have HA := mkHid ha
  clear H ha
  go_wp2
  go_ret3
  exact ⟨ar, rfl, hb, HA.out⟩

/-- bytesAt where the bytes are there. -/
theorem at_empty (out sa : Option Addr) (n cn p cs : Nat) (w : World) (hp : p ≤ n) (hn : n ≤ 2097152) :
    Calls Trym.prog 9 #[.slice out n cn, .int .i64 (p : Int), .slice sa 0 cs] w fun e w' => e = .returned (.bool true) ∧ w' = w := by
  have d1 : decide ((p : Int) < 0) = false := decide_eq_false (by omega)
  have d2 : decide ((n : Int) < (p : Int)) = false := decide_eq_false (by omega)
  go_enter Trym.func9, Trym.ntmps9
  go_wp2
  refine wp_loop_rounds 1 ?_
  rw [rounds_succ]; go_wp2
  go_ret
  exact ⟨rfl, rfl⟩

theorem at_some (g f n cn p h e0 m cs : Nat) (xs : List Int) (w : World) (hp : p + m ≤ n) (hn : n ≤ 2097152) (hc : ∀ i, i < m → w.cell? ⟨g, f + (p + i), none⟩ = some (.int .u8 (xs.getD i 0)))
    (hd : ∀ i, i < m → w.cell? ⟨h, e0 + i, none⟩ = some (.int .u8 (xs.getD i 0))) :
    Calls Trym.prog 9 #[.slice (some ⟨g, f, none⟩) n cn, .int .i64 (p : Int), .slice (some ⟨h, e0, none⟩) m cs] w fun e w' => e = .returned (.bool true) ∧ Below w.heap.size w w' := by
  have d1 : decide ((p : Int) < 0) = false := decide_eq_false (by omega)
  have d2 : decide ((n : Int) < (p : Int)) = false := decide_eq_false (by omega)
  have d3 : decide ((n : Int) - (p : Int) < (m : Int)) = false := decide_eq_false (by omega)
  have HC := mkHid hc
  have HD := mkHid hd
  clear hc hd
  go_enter Trym.func9, Trym.ntmps9
  go_wp2
  go_loopw [7] (fun i wr => ∃ k q : Nat, k ≤ m ∧ i = .int .i64 k ∧ wr = w.drewN q) (fun i _ => m - (intOf i).toNat)
  case atStart => exact ⟨0, 0, Nat.zero_le _, rfl, rfl⟩
  case round =>
    obtain ⟨k, q, hk, rfl, rfl⟩ := hrel
    by_cases hlt : k < m
    · have c1 : w.cell? ⟨g, f + (p + k), none⟩ = some (.int .u8 (xs.getD k 0)) := HC.out k hlt
      have c2 : w.cell? ⟨h, e0 + k, none⟩ = some (.int .u8 (xs.getD k 0)) := HD.out k hlt
      obtain ⟨y, hy⟩ : ∃ y, y = xs.getD k 0 := ⟨_, rfl⟩
      rw [← hy] at c1 c2
      clear hy
      have b1 : (k : Int) < (m : Int) := by omega
      have b2 : (p : Int) + (k : Int) < (n : Int) := by omega
      go_wp2
      go_quiet (fail)
      go_wp2
      go_roundw
      case rel => exact ⟨k + 1, _, by omega, by go_num, rfl⟩
      case measure => simp [intOf]; omega
    · go_wp2
      go_ret
      exact ⟨rfl, (Below.refl _ _).trans ⟨rfl, rfl, rfl, Nat.le_refl _, fun _ _ => rfl⟩⟩

theorem at_any (g f n cn p m cs : Nat) (P : Int) (sa : Option Addr) (xs : List Int) (w : World) (hP : P = (p : Int)) (hp : p + m ≤ n) (hn : n ≤ 2097152)
    (h : m = 0 ∨ ∃ h e0, sa = some ⟨h, e0, none⟩ ∧ (∀ i, i < m → w.cell? ⟨g, f + (p + i), none⟩ = some (.int .u8 (xs.getD i 0))) ∧ ∀ i, i < m → w.cell? ⟨h, e0 + i, none⟩ = some (.int .u8 (xs.getD i 0))) :
    Calls Trym.prog 9 #[.slice (some ⟨g, f, none⟩) n cn, .int .i64 P, .slice sa m cs] w fun e w' => e = .returned (.bool true) ∧ Below w.heap.size w w' := by
  subst hP
  rcases h with rfl | ⟨h, e0, rfl, hc, hd⟩
  · exact (at_empty (some ⟨g, f, none⟩) sa n cn p cs w (by omega) hn).mono fun e w' ⟨he, hw⟩ => ⟨he, by subst hw; exact Below.refl _ _⟩
  · exact at_some g f n cn p h e0 m cs xs w hp hn hc hd

end Go.Proofs.Qxb6602603aMods
