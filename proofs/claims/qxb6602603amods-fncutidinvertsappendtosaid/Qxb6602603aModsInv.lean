import Derived.Test.Qxb6602603aModsSent
import Derived.Test.Qxb6602603aModsCut
namespace Go.Proofs.Qxb6602603aMods
open Go.ChangeShapes Go.WideShapes Go.ChangeAt Go.RowKit
set_option linter.unusedVariables false

theorem cut8_str (g f len cap : Nat) (s : ByteArray) (w : World) (hlen : len ≤ cap) (hcap : cap ≤ 9223372036854775807) (hn : s.size ≤ 255) (hc0 : w.cell? ⟨g, f, none⟩ = some (.int .u8 (s.size : Int))) (hs : 1 + s.size < len)
    (hc : ∀ i, i < s.size → w.cell? ⟨g, f + 1 + i, none⟩ = some (.int .u8 ((ints s).getD i 0))) :
    Calls Trym.prog 8 #[.slice (some ⟨g, f, none⟩) len cap] w fun e w' => e = .returned (.tuple #[.string s, .slice (some ⟨g, f + (1 + s.size), none⟩) (len - (1 + s.size)) (cap - (1 + s.size)), .bool (okID s)]) ∧ Below w.heap.size w w' := by
  have H := cut8_long g f len cap s.size (ints s) w hlen hcap hn hc0 (by omega) (ints_length s) hc
  rw [str_ints] at H
  refine H.mono fun e w' ⟨ar, he, hb, ha⟩ => ?_
  rcases ha with h | h
  · omega
  · subst h; exact ⟨he, hb⟩

theorem own_clone {B n : Nat} {w : World} {a : Option Addr} {ls : List Int} (hl : ls.length = n) (ha : (a = none ∧ n = 0) ∨ (a = some ⟨B, 0, none⟩ ∧ w.ownsRow B 5 1 (.slice (some ⟨B, 0, none⟩) n n) n (ls.map (Value.int .u8)))) :
    w.ownsRow B 5 1 (.slice a n n) n (ls.map (Value.int .u8)) := by
  rcases ha with ⟨rfl, rfl⟩ | ⟨rfl, h⟩
  · obtain rfl : ls = [] := List.eq_nil_of_length_eq_zero hl
    exact World.ownsRow_nil _ _ _ _
  · exact h

theorem clone_carry {B n : Nat} {w1 w2 : World} {a : Option Addr} {ls : List Int} (hb : Below w1.heap.size w1 w2) (ha : (a = none ∧ n = 0) ∨ (a = some ⟨B, 0, none⟩ ∧ w1.ownsRow B 5 1 (.slice (some ⟨B, 0, none⟩) n n) n (ls.map (Value.int .u8)))) :
    (a = none ∧ n = 0) ∨ ∃ bb, bb < w1.heap.size ∧ a = some ⟨bb, 0, none⟩ ∧ ∀ j, j < n → w2.cell? ⟨bb, j, none⟩ = some (.int .u8 (ls.getD j 0)) := by
  rcases ha with h | ⟨rfl, h⟩
  · exact .inl h
  · have hlt : B < w1.heap.size := (h.lt B rfl).2
    exact .inr ⟨B, hlt, rfl, fun j hj => (hb.cell (by exact hlt)).trans (cells_own1 h j hj)⟩

set_option maxRecDepth 100000 in
set_option maxHeartbeats 4000000 in
theorem inv_main (src dst : ByteArray) (ttl kind : Int) (a4 a5 : Option Addr) (l4 c4 l5 c5 : Nat) (body bs : List Int) (w : World)
    (hs : src.size ≤ 9223372036854775807) (ht : dst.size ≤ 9223372036854775807) (hm4 : l4 ≤ 9223372036854775807) (hm5 : l5 ≤ 9223372036854775807)
    (hB4 : Bytes w a4 l4 body) (hB5 : Bytes w a5 l5 bs) (hc4 : a4 = none → c4 = 0) (hc5 : a5 = none → c5 = 0) :
    Calls Trym.prog 4 #[.string src, .string dst, .int .u8 ttl, .int .u8 kind, .slice a4 l4 c4, .slice a5 l5 c5] w fun e w' => e = .returned (.bool true) ∧ Below w.heap.size w w' := by
  have HB4 := mkHid hB4
  have HB5 := mkHid hB5
  clear hB4 hB5
  by_cases hsum : 1048576 < src.size + dst.size + l4 + l5
  · have H := mkHid (zz11_no src dst ttl kind a4 a5 l4 c4 l5 c5 w hs ht hm4 hm5 hsum)
    clear hsum
    go_enter Trym.func4, Trym.ntmps4
    go_wp2_with fail
    refine H.out.mono ?_
    rintro e w' ⟨rfl, hw⟩
    subst w'
    go_wp2
    go_ret
    exact ⟨rfl, Below.refl _ _⟩
  have H := mkHid (zz11_yes src dst ttl kind a4 a5 l4 c4 l5 c5 w (by omega))
  have d1 : decide ((1048576 : Int) < (src.size : Int)) = false := decide_eq_false (by omega)
  have d2 : decide ((1048576 : Int) - (src.size : Int) < (dst.size : Int)) = false := decide_eq_false (by omega)
  have d3 : decide ((1048576 : Int) - (src.size : Int) - (dst.size : Int) < (l4 : Int)) = false := decide_eq_false (by omega)
  have d4 : decide ((1048576 : Int) - (src.size : Int) - (dst.size : Int) - (l4 : Int) < (l5 : Int)) = false := decide_eq_false (by omega)
  by_cases h1 : 255 < src.size
  · have d5 : decide ((255 : Int) < (src.size : Int)) = true := decide_eq_true (by omega)
    go_enter Trym.func4, Trym.ntmps4
    go_wp2_with fail
    refine H.out.mono ?_
    rintro e w' ⟨rfl, hw⟩
    subst w'
    go_wp2
    go_ret
    exact ⟨rfl, Below.refl _ _⟩
  have d5 : decide ((255 : Int) < (src.size : Int)) = false := decide_eq_false (by omega)
  by_cases h2 : 255 < dst.size
  · have d6 : decide ((255 : Int) < (dst.size : Int)) = true := decide_eq_true (by omega)
    go_enter Trym.func4, Trym.ntmps4
    go_wp2_with fail
    refine H.out.mono ?_
    rintro e w' ⟨rfl, hw⟩
    subst w'
    go_wp2
    go_ret
    exact ⟨rfl, Below.refl _ _⟩
  have d6 : decide ((255 : Int) < (dst.size : Int)) = false := decide_eq_false (by omega)
  go_enter Trym.func4, Trym.ntmps4
  go_wp2_with fail
  refine H.out.mono ?_
  rintro e w' ⟨rfl, hw⟩
  subst w'
  clear H
  go_wp2_with fail
  refine (cloneB_any a4 l4 c4 body w hc4 (by omega) HB4.out).mono ?_
  rintro e1 w1 ⟨b4, rfl, hb1, ha4⟩
  have HA4 := mkHid ha4
  clear ha4
  go_wp2_with fail
  refine (cloneB_any a5 l5 c5 bs w1 hc5 (by omega) (HB5.out.below hb1)).mono ?_
  rintro e2 w2 ⟨b5, rfl, hb2, ha5⟩
  have HO5 := mkHid (own_clone HB5.out.1 ha5)
  clear ha5
  go_wp2_with fail
  refine (packet_any w1.heap.size l5 (.slice b5 l5 l5) bs body src dst ttl kind b4 l4 w2 HO5.out hb2.size (by omega) (by omega) (by omega) (by omega) HB4.out.1 (clone_carry hb2 HA4.out)).mono ?_
  rintro e3 w3 ⟨v3, rfl, hown3, hb3⟩
  rcases hown3.2 with ⟨_, hx⟩ | ⟨g, cap, cur, rfl, hg1, hgh, hcl, hcm, hy1, hy2⟩
  · omega
  unfold maxLen at hcm
  have hgw : g < w3.heap.size := (hown3.lt g rfl).2
  have HC := mkHid (cells_own1 hown3)
  clear hown3 hgh hy1 hy2
  obtain ⟨N, hN1, hN2, HN⟩ : ∃ N, N ≤ l5 + 1 + src.size + 1 + dst.size + 2 + l4 ∧ l5 + 1 + src.size + 1 + dst.size + 2 + l4 ≤ N ∧ l5 + 1 + src.size + 1 + dst.size + 2 + l4 = N := ⟨_, Nat.le_refl _, Nat.le_refl _, rfl⟩
  rw [HN] at hcl HC ⊢
  clear HN
  have hcapne : ¬ cap = l5 := by omega
  have hbl : bs.length = l5 := HB5.out.1
  have k0 : w3.cell? ⟨g, l5, none⟩ = some (.int .u8 (src.size : Int)) := by
    rw [HC.out l5 (by omega)]
    have := sent0 bs body src dst ttl kind
    rw [hbl] at this
    rw [this]
  have hs2 := hb2.size
  have hs3 := hb3.size
  have HK := mkHid hbl
  clear hbl
  go_wp2_with fail
  refine (cut8_str g l5 (N - l5) (cap - l5) src w3 (by omega) (by omega) (by omega) k0 (by omega) ?hcA).mono ?_
  case hcA =>
    intro i hi
    have := sent1' bs body src dst ttl kind i hi
    rw [HK.out] at this
    rw [Nat.add_assoc, HC.out (l5 + (1 + i)) (by omega), this]
  rintro e4 w4 ⟨rfl, hb4⟩
  have hs4 := hb4.size
  have k1 : w4.cell? ⟨g, l5 + (1 + src.size), none⟩ = some (.int .u8 (dst.size : Int)) := by
    have := sent2 bs body src dst ttl kind 0
    rw [HK.out] at this
    refine (hb4.cell (by exact hgw)).trans ?_
    rw [HC.out (l5 + (1 + src.size)) (by omega)]
    exact congrArg (fun z => some (Value.int .u8 z)) this
  go_wp2_with fail
  refine (model_any src w4 hs).mono ?_
  rintro e5 w5 ⟨rfl, hw⟩
  subst w5
  go_wp2_with fail
  refine (cut8_str g (l5 + (1 + src.size)) (N - l5 - (1 + src.size)) (cap - l5 - (1 + src.size)) dst w4 (by omega) (by omega) (by omega) k1 (by omega) ?hcB).mono ?_
  case hcB =>
    intro i hi
    have := sent3' bs body src dst ttl kind i hi
    rw [HK.out] at this
    refine (hb4.cell (by exact hgw)).trans ?_
    have e : l5 + (1 + src.size) + 1 + i = l5 + (1 + (src.size + (1 + i))) := by omega
    rw [e, HC.out _ (by omega), this]
  rintro e6 w6 ⟨rfl, hb6⟩
  have hs6 := hb6.size
  have hB36 : Below w3.heap.size w3 w6 := hb4.trans (hb6.mono hs4)
  have key : ∀ i, i < 2 + l4 → w6.cell? ⟨g, l5 + (1 + src.size) + (1 + dst.size) + i, none⟩ = some (.int .u8 ((ttl :: kind :: body).getD i 0)) := by
    intro i hi
    have := sent4 bs body src dst ttl kind i
    rw [HK.out] at this
    refine (hB36.cell (by exact hgw)).trans ?_
    have e : l5 + (1 + src.size) + (1 + dst.size) + i = l5 + (1 + (src.size + (1 + (dst.size + i)))) := by omega
    rw [e, HC.out _ (by omega), this]
  have k2 : w6.cell? ⟨g, l5 + (1 + src.size) + (1 + dst.size), none⟩ = some (.int .u8 ttl) := key 0 (by omega)
  have k3 : w6.cell? ⟨g, l5 + (1 + src.size) + (1 + dst.size) + 1, none⟩ = some (.int .u8 kind) := key 1 (by omega)
  have KEY := mkHid key
  clear key
  have hq : (((N - l5 - (1 + src.size) - (1 + dst.size) : Nat) : Int) != 2 + (l4 : Int)) = false := by
    have e : ((N - l5 - (1 + src.size) - (1 + dst.size) : Nat) : Int) = 2 + (l4 : Int) := by omega
    rw [e]; simp
  have hi0 : (0 : Int) < ((N - l5 - (1 + src.size) - (1 + dst.size) : Nat) : Int) := by omega
  have hi1 : (1 : Int) < ((N - l5 - (1 + src.size) - (1 + dst.size) : Nat) : Int) := by omega
  go_wp2_with fail
  refine (model_any dst w6 ht).mono ?_
  rintro e7 w7 ⟨rfl, hw⟩
  subst w7
  go_wp2_with fail
  refine (at_any g (l5 + (1 + src.size) + (1 + dst.size)) (N - l5 - (1 + src.size) - (1 + dst.size)) _ 2 l4 l4 2 b4 body w6 rfl (by omega) (by omega) ?hcC).mono ?_
  case hcC =>
    have hB16 : Below w1.heap.size w1 w6 := (hb2.trans hb3).trans (hB36.mono (by omega))
    rcases clone_carry hB16 HA4.out with ⟨_, h⟩ | ⟨bb, hbb, hab, hcb⟩
    · exact .inl h
    · refine .inr ⟨bb, 0, hab, fun i hi => ?_, fun i hi => by rw [Nat.zero_add]; exact hcb i hi⟩
      have := KEY.out (2 + i) (by omega)
      rw [this, Nat.add_comm 2 i]
      rfl
  rintro e8 w8 ⟨rfl, hb8⟩
  go_wp2
  go_ret
  exact ⟨rfl, hb1.trans ((((hb2.trans hb3).trans (hB36.mono (by omega))).trans (hb8.mono (by omega))).mono hb1.size)⟩

end Go.Proofs.Qxb6602603aMods
