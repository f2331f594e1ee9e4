import Derived.Test.Qxb6602603aModsCut
namespace Go.Proofs.Qxb6602603aMods
open Go.ChangeShapes Go.WideShapes Go.ChangeAt Go.RowKit
set_option linter.unusedVariables false

theorem ints_str (xs : List Int) (hb : ∀ n ∈ xs, 0 ≤ n ∧ n ≤ 255) : ints (strOfNums xs) = xs := by
  unfold ints
  rw [strOfNums_data, List.map_map]
  have : ∀ n ∈ xs, ((fun b : UInt8 => (b.toNat : Int)) ∘ fun n : Int => UInt8.ofNat n.toNat) n = id n := fun n hn => by
    have := hb n hn
    simp only [Function.comp, UInt8.toNat_ofNat', id]
    omega
  rw [List.map_congr_left this, List.map_id]
theorem str_at (xs : List Int) (hb : ∀ n ∈ xs, 0 ≤ n ∧ n ≤ 255) (k : Nat) (h : k < (strOfNums xs).size) : (((strOfNums xs)[k]'h).toNat : Int) = xs.getD k 0 := by
  rw [ints_at, ints_str xs hb]

theorem zz6_no (a : Option Addr) (len cap : Nat) (w : World) (hm : len ≤ 9223372036854775807) (h : 1048576 < len) :
    Calls Trym.prog 3 #[.slice a len cap] w fun e w' => e = .returned (.bool true) ∧ w' = w := by
  go_enter Trym.func3, Trym.ntmps3
  go_wp2
  go_ret
  exact ⟨rfl, rfl⟩

theorem spec_empty (a : Option Addr) (cap : Nat) (hcap : a = none → cap = 0) (w : World) :
    Calls Trym.prog 3 #[.slice a 0 cap] w fun e w' => e = .returned (.bool true) ∧ Below w.heap.size w w' := by
  have q22 : ∀ (w : World) (a : Option Addr) (n c n' c' : Nat), (binOp .eql 22 (.slice a n c) (.slice none n' c')).run Trym.prog w = .ok (.bool a.isNone) w := fun w a n c n' c' => Lib.run_eql_slice_nil w _ _ a n c n' c' Trym.underlying22
  have H := mkHid (cloneB_any a 0 cap [] w hcap (by omega) ⟨rfl, fun _ => rfl, fun x _ i hi => absurd hi (by omega)⟩)
  go_enter Trym.func3, Trym.ntmps3
  go_wp2_with (first | (go_at_call 6; go_in) | fail)
  refine H.out.mono ?_
  rintro e w1 ⟨a', rfl, hb, _⟩
  clear H
  go_wp2_with fail
  refine (cut8_nil a' 0 w1).mono ?_
  rintro e w2 ⟨rfl, hw⟩
  subst w2
  go_wp2
  go_ret
  exact ⟨rfl, hb⟩

set_option maxRecDepth 100000 in
set_option maxHeartbeats 2000000 in
theorem spec_some (x : Addr) (len cap : Nat) (l : List Int) (w : World) (hlen : len ≤ 1048576) (h0 : 0 < len) (hB : Bytes w (some x) len l) (hbd : ∀ n ∈ l, 0 ≤ n ∧ n ≤ 255) :
    Calls Trym.prog 3 #[.slice (some x) len cap] w fun e w' => e = .returned (.bool true) ∧ Below w.heap.size w w' := by
  have q22 : ∀ (w : World) (a : Option Addr) (n c n' c' : Nat), (binOp .eql 22 (.slice a n c) (.slice none n' c')).run Trym.prog w = .ok (.bool a.isNone) w := fun w a n c n' c' => Lib.run_eql_slice_nil w _ _ a n c n' c' Trym.underlying22
  have hl := hB.1
  have H := mkHid (cloneB_any (some x) len cap l w (fun h => by cases h) hlen hB)
  have hp : ((len : Int) == 0) = false := beq_eq_false_iff_ne.2 (by omega)
  have hp0 : (0 : Int) < (len : Int) := by omega
  obtain ⟨n, hn⟩ : ∃ n : Nat, l.getD 0 0 = (n : Int) := by
    have hm : l[0] ∈ l := List.getElem_mem (by omega)
    have e : l.getD 0 0 = l[0] := by simp [List.getD, show 0 < l.length from by omega]
    exact ⟨(l[0]).toNat, by rw [e]; have := hbd _ hm; omega⟩
  have hn255 : n ≤ 255 := by
    have hm : l[0] ∈ l := List.getElem_mem (by omega)
    have e : l.getD 0 0 = l[0] := by simp [List.getD, show 0 < l.length from by omega]
    have := hbd _ hm
    omega
  clear hB
  go_enter Trym.func3, Trym.ntmps3
  go_wp2_with (first | (go_at_call 6; go_in) | fail)
  refine H.out.mono ?_
  rintro e w1 ⟨a', rfl, hb, ha⟩
  clear H
  rcases ha with ⟨_, hx⟩ | ⟨rfl, hown⟩
  · omega
  have hcell := mkHid (cells_own1 hown)
  have hgw : w.heap.size < w1.heap.size := (hown.lt _ rfl).2
  have hc0 : w1.cell? ⟨w.heap.size, 0, none⟩ = some (.int .u8 (n : Int)) := by rw [hcell.out 0 h0, hn]
  clear hown
  have HN := mkHid hn
  clear hn
  by_cases hs : len < 1 + n
  · have hd : decide ((len : Int) - 1 < (n : Int)) = true := decide_eq_true (by omega)
    go_wp2_with fail
    refine (cut8_short w.heap.size 0 len len n w1 (by omega) h0 hn255 hc0 hs).mono ?_
    rintro e w2 ⟨rfl, hw⟩
    subst w2
    go_wp2
    go_ret
    exact ⟨rfl, hb⟩
  · have hlx : ((l.drop 1).take n).length = n := by simp; omega
    have hxs : ∀ i, i < n → w1.cell? ⟨w.heap.size, 0 + 1 + i, none⟩ = some (.int .u8 (((l.drop 1).take n).getD i 0)) := fun i hi => by
      have := hcell.out (1 + i) (by omega)
      have e : ((l.drop 1).take n).getD i 0 = l.getD (1 + i) 0 := by rw [List.getD, List.getD, List.getElem?_take, if_pos hi, List.getElem?_drop]
      rw [e, Nat.zero_add]; exact this
    have hbx : ∀ y ∈ (l.drop 1).take n, 0 ≤ y ∧ y ≤ 255 := fun y hy => hbd y (List.mem_of_mem_drop (List.mem_of_mem_take hy))
    obtain ⟨xs, hxe⟩ : ∃ xs, xs = (l.drop 1).take n := ⟨_, rfl⟩
    rw [← hxe] at hlx hxs hbx
    clear hxe
    have HXS := mkHid hxs
    have HBX := mkHid hbx
    clear hxs hbx hbd
    have hd : decide ((len : Int) - 1 < (n : Int)) = false := decide_eq_false (by omega)
    go_wp2_with fail
    refine (cut8_long w.heap.size 0 len len n xs w1 (Nat.le_refl _) (by omega) hn255 hc0 (by omega) hlx HXS.out).mono ?_
    rintro e w2 ⟨ar, rfl, hb2, har⟩
    have HAR := mkHid har
    clear har
    have hsz2 : (strOfNums xs).size = n := by rw [strOfNums_size]; exact hlx
    have HST := mkHid (str_at xs HBX.out)
    have hMOD := mkHid (fun wx => model_any (strOfNums xs) wx (by rw [hsz2]; omega))
    have hc2 : w2.cell? ⟨w.heap.size, 0, none⟩ = some (.int .u8 (n : Int)) := (hb2.cell (by exact hgw)).trans hc0
    clear hlx
    obtain ⟨s, hse⟩ : ∃ s, s = strOfNums xs := ⟨_, rfl⟩
    rw [← hse] at hsz2 HST hMOD ⊢
    clear hse
    have hne : (((len - (1 + n) : Nat) : Int) != (len : Int) - 1 - (n : Int)) = false := by
      have e : ((len - (1 + n) : Nat) : Int) = (len : Int) - 1 - (n : Int) := by omega
      rw [e]; simp
    go_wp2
    go_loopw [7] (fun i wr => ∃ k q : Nat, k ≤ n ∧ i = .int .i64 k ∧ wr = w2.drewN q) (fun i _ => n - (intOf i).toNat)
    case atStart => exact ⟨0, 0, Nat.zero_le _, rfl, rfl⟩
    case round =>
      obtain ⟨k, q, hk, rfl, rfl⟩ := hrel
      by_cases hlt : k < n
      · have hks : k < s.size := by omega
        have c1 : w2.cell? ⟨w.heap.size, 1 + k, none⟩ = some (.int .u8 ((s[k]'hks).toNat : Int)) := by
          rw [HST.out k hks]
          have := HXS.out k hlt
          rw [Nat.zero_add] at this
          exact (hb2.cell (by exact hgw)).trans this
        have b1 : (1 : Int) + (k : Int) < (len : Int) := by omega
        have b2 : (k : Int) < (n : Int) := by omega
        go_wp2
        go_quiet (fail)
        go_wp2
        go_roundw
        case rel => exact ⟨k + 1, _, by omega, by go_num, rfl⟩
        case measure => simp [intOf]; omega
      · have hB2q : Below w1.heap.size w1 (w2.drewN q) := hb2.trans ⟨rfl, rfl, rfl, Nat.le_refl _, fun _ _ => rfl⟩
        go_wp2_with fail
        refine (at_any w.heap.size 0 len len (1 + n) (len - (1 + n)) (len - (1 + n)) _ (some ar) (l.drop (1 + n)) (w2.drewN q) (by omega) (by omega) (by omega) ?hh).mono ?_
        case hh =>
          rcases HAR.out with h | h
          · exact .inl (by omega)
          · subst h
            have key : ∀ i, i < len - (1 + n) → (w2.drewN q).cell? ⟨w.heap.size, 0 + (1 + n) + i, none⟩ = some (.int .u8 ((l.drop (1 + n)).getD i 0)) := fun i hi => by
              have e : (l.drop (1 + n)).getD i 0 = l.getD (1 + n + i) 0 := by rw [List.getD, List.getD, List.getElem?_drop]
              rw [e, Nat.zero_add]
              exact (hB2q.cell (by exact hgw)).trans (hcell.out (1 + n + i) (by omega))
            exact .inr ⟨_, _, rfl, fun i hi => by rw [← Nat.add_assoc]; exact key i hi, key⟩
        rintro e w3 ⟨rfl, hb3⟩
        go_wp2_with fail
        refine (hMOD.out w3).mono ?_
        rintro e w4 ⟨rfl, hw⟩
        subst w4
        go_wp2
        go_ret
        exact ⟨ret_bool (by simp), hb.trans ((hB2q.trans (hb3.mono hB2q.size)).mono (by omega))⟩

end Go.Proofs.Qxb6602603aMods
