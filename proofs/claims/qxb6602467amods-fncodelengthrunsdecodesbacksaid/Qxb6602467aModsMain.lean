import Derived.Test.Qxb6602467aModsAny
import Derived.Test.Qxb6602467aModsBig
namespace Go.Proofs.Qxb6602467aMods
open Go.ChangeShapes Go.WideShapes Go.ChangeAt Go.RowKit
set_option linter.unusedVariables false

theorem mkHid {p : Prop} (h : p) : Hid p := h

theorem lt_of_cell' {w : World} {p : Addr} {v : Value} (h : w.cell? p = some v) : p.block < w.heap.size := by
  rcases Nat.lt_or_ge p.block w.heap.size with h' | h'
  · exact h'
  · simp [World.cell?, Array.getElem?_eq_none h'] at h

theorem Bytes.below {w w1 : World} {a : Option Addr} {len : Nat} {ls : List Int} (h : Bytes w a len ls) (hb : Below w.heap.size w w1) : Bytes w1 a len ls :=
  ⟨h.1, h.2.1, fun x hx i hi => (hb.cell (lt_of_cell' (h.2.2 x hx i hi))).trans (h.2.2 x hx i hi)⟩

theorem enc_nil {ls : List Int} {len : Nat} (hl : ls.length = len) (h : Runs.Enc ls len []) : len = 0 := by
  have e : [] = ls.take len := h.1
  have := congrArg List.length e
  simp at this
  omega

theorem getD_append_left' (R t : List (Int × Int)) (j : Nat) (h : j < R.length) : (R ++ t).getD j (0, 0) = R.getD j (0, 0) := by
  simp [List.getD, List.getElem?_append_left h]
theorem getD_append_right' (R t : List (Int × Int)) (j : Nat) : (R ++ t).getD (R.length + j) (0, 0) = t.getD j (0, 0) := by
  simp [List.getD, List.getElem?_append_right (Nat.le_add_right R.length j)]

/-- The cloned runs read in a later world. -/
theorem pairs_carry {B len0 : Nat} {w1 w2 : World} {a : Option Addr} {rs : List (Int × Int)} (hb2 : Below w1.heap.size w1 w2)
    (ha : (a = none ∧ len0 = 0) ∨ (a = some ⟨B, 0, none⟩ ∧ w1.ownsRow B 38 2 (.slice (some ⟨B, 0, none⟩) len0 len0) len0 (flat rs))) :
    (a = none ∧ len0 = 0) ∨ ∃ b, b < w2.heap.size ∧ a = some ⟨b, 0, none⟩ ∧ ∀ j, j < len0 → w2.cell? ⟨b, j * 2, none⟩ = some (.int .u8 (rs.getD j (0, 0)).1) ∧ w2.cell? ⟨b, j * 2 + 1, none⟩ = some (.int .u8 (rs.getD j (0, 0)).2) := by
  rcases ha with h | ⟨rfl, ho⟩
  · exact .inl h
  · have hlt : B < w1.heap.size := (ho.lt B rfl).2
    have hs := hb2.size
    refine .inr ⟨B, by omega, rfl, fun j hj => ?_⟩
    have := cells_own2 ho j hj
    exact ⟨(hb2.cell (by exact hlt)).trans this.1, (hb2.cell (by exact hlt)).trans this.2⟩

theorem bytes_carry {B len1 : Nat} {w2 w3 : World} {ls : List Int} (hb3 : Below w2.heap.size w2 w3) (ho : w2.ownsRow B 5 1 (.slice (some ⟨B, 0, none⟩) len1 len1) len1 (ls.map (Value.int .u8))) :
    ∃ b, b < w2.heap.size ∧ some (⟨B, 0, none⟩ : Addr) = some ⟨b, 0, none⟩ ∧ ∀ j, j < len1 → w3.cell? ⟨b, j, none⟩ = some (.int .u8 (ls.getD j 0)) := by
  have hlt : B < w2.heap.size := (ho.lt B rfl).2
  exact ⟨B, hlt, rfl, fun j hj => (hb3.cell (by exact hlt)).trans (cells_own1 ho j hj)⟩
theorem own1_carry {B len1 : Nat} {w2 w3 : World} {ls : List Int} (hb3 : Below w2.heap.size w2 w3) (ho : w2.ownsRow B 5 1 (.slice (some ⟨B, 0, none⟩) len1 len1) len1 (ls.map (Value.int .u8))) :
    ∀ j, j < len1 → w3.cell? ⟨B, j, none⟩ = some (.int .u8 (ls.getD j 0)) := by
  have hlt : B < w2.heap.size := (ho.lt B rfl).2
  exact fun j hj => (hb3.cell (by exact hlt)).trans (cells_own1 ho j hj)

set_option maxRecDepth 100000 in
set_option maxHeartbeats 8000000 in
theorem main_walk (a0 a1 : Option Addr) (len0 cap0 len1 cap1 : Nat) (rs : List (Int × Int)) (ls : List Int) (w : World) (hP : Pairs w a0 len0 rs) (hB : Bytes w a1 len1 ls) (hc0 : a0 = none → cap0 = 0) (hc1 : a1 = none → cap1 = 0)
    (hm0 : len0 ≤ 9223372036854775807) (hm1 : len1 ≤ 9223372036854775807) (hbd : ∀ j, 0 ≤ ls.getD j 0) :
    Calls Trym.prog 5 #[.slice a0 len0 cap0, .slice a1 len1 cap1] w fun e w' => e = .returned (.bool true) ∧ Below w.heap.size w w' := by
  by_cases hbig : 262144 < len0 ∨ 524288 < len1
  · exact (big a0 a1 len0 cap0 len1 cap1 w hm0 hm1 hbig).mono fun e w' ⟨he, hw⟩ => ⟨he, by subst hw; exact Below.refl _ _⟩
  have h0 : len0 ≤ 262144 := by omega
  have h1 : len1 ≤ 524288 := by omega
  have H12 := zz12_yes a0 a1 len0 cap0 len1 cap1 w (by omega)
  clear hbig hm0 hm1
  by_cases hz1 : len1 = 0
  · subst hz1
    go_enter Trym.func5, Trym.ntmps5
    go_wp2_with fail
    refine H12.mono ?_
    rintro e w' ⟨rfl, hw⟩
    subst w'
    clear H12
    go_wp2
    refine wp_loop_rounds 1 ?_
    rw [rounds_succ]
    have hv : ∀ j, j < 0 → 0 ≤ ls.getD j 0 ∧ ls.getD j 0 ≤ 15 := fun j hj => ⟨hbd j, absurd hj (by omega)⟩
    have HV : Hid (∀ j, j < 0 → 0 ≤ ls.getD j 0 ∧ ls.getD j 0 ≤ 15) := hv
    have HP : Hid (Pairs w a0 len0 rs) := hP
    have HB : Hid (Bytes w a1 0 ls) := hB
    clear hv hP hB hbd
    go_wp2_with fail
    refine (cloneR_any a0 len0 cap0 rs w hc0 (by omega) HP.out).mono ?_
    rintro e1 w1 ⟨a0', rfl, hb1, ha0⟩
    have HA0 := mkHid ha0
    clear ha0
    go_wp2_with fail
    refine (cloneB_any a1 0 cap1 ls w1 hc1 (by omega) (HB.out.below hb1)).mono ?_
    rintro e2 w2 ⟨a1', rfl, hb2, ha1⟩
    have HA1 := mkHid ha1
    clear ha1
    go_wp2_with fail
    refine (toProj_any a0' len0 rs w2 (by omega) HP.out.1 (pairs_carry hb2 HA0.out)).mono ?_
    rintro e3 w3 ⟨v3, rfl, hb3, hown3⟩
    have HO3 := mkHid hown3
    clear hown3
    go_wp2_with fail
    refine (clr14_any a1' 0 w2.heap.size len0 v3 rs ls w3 (by omega) (by omega) HP.out.1 HB.out.1 hb3.size HO3.out HV.out (.inl rfl)).mono ?_
    rintro e4 w4 ⟨v4, t, rfl, hown4, henc, hb4⟩
    have hB14 : Below w1.heap.size w1 w4 := (hb2.trans (hb3.mono hb2.size)).trans (hb4.mono hb2.size)
    have hB24 : Below w2.heap.size w2 w4 := hb3.trans hb4
    have hs1 := hb1.size
    have hs2 := hb2.size
    have hs4 := hB24.size
    have ht := henc.2
    have HE := mkHid henc
    have HO4 := mkHid hown4
    have hg4 := hown4.2
    clear hown4 henc
    obtain rfl : t = [] := List.eq_nil_of_length_eq_zero (by omega)
    rcases hg4 with ⟨rfl, hn⟩ | ⟨g, capg, cur, rfl, hbg, hgh, hlc, hcm, hx1, hx2⟩
    · obtain rfl : len0 = 0 := by simpa using hn
      go_wp2_with fail
      refine (same_any _ a0' 0 _ 0 rs w4 (by omega) (by rw [HP.out.1]; omega) (.inl rfl)).mono ?_
      rintro e5 w5 ⟨rfl, hb5⟩
      have hs5 := hb5.size
      go_wp2_with fail
      refine (inflate_empty _ _ _).mono ?_
      rintro e6 w6 ⟨rfl, hb6⟩
      go_wp2
      refine wp_loop_rounds 1 ?_
      rw [rounds_succ]; go_wp2
      go_ret
      exact ⟨rfl, hb1.trans (((hB14.trans (hb5.mono (by omega))).trans (hb6.mono (by omega))).mono hs1)⟩
    · unfold maxLen at hcm
      simp only [List.length_nil, Nat.add_zero] at hlc
      have hgw : g < w4.heap.size := (HO4.out.lt g rfl).2
      clear hgh hx1 hx2
      go_wp2_with fail
      refine (same_any _ a0' len0 _ len0 rs w4 (by omega) (by rw [HP.out.1]; omega) (by
        rcases pairs_carry hB14 HA0.out with ⟨_, h⟩ | ⟨b, hb, hab, hcb⟩
        · exact .inl h
        · refine .inr ⟨g, b, rfl, hab, hgw, by omega, fun j hj => ?_, hcb⟩
          have := cells_own2 HO4.out j (by omega)
          rw [getD_append_left' rs _ j (by rw [HP.out.1]; exact hj)] at this
          exact this)).mono ?_
      rintro e5 w5 ⟨rfl, hb5⟩
      have hs5 := hb5.size
      go_wp2_with fail
      all_goals
        refine (inflate_empty _ _ _).mono ?_
        rintro e6 w6 ⟨rfl, hb6⟩
        go_wp2
        refine wp_loop_rounds 1 ?_
        rw [rounds_succ]; go_wp2
        go_ret
        exact ⟨rfl, hb1.trans (((hB14.trans (hb5.mono (by omega))).trans (hb6.mono (by omega))).mono hs1)⟩
  · have ⟨hBl, hBn, hBc⟩ := hB
    cases a1 with
    | none => exact absurd (hBn rfl) hz1
    | some x =>
    obtain ⟨b, off, sp⟩ := x
    have hcc := hBc _ rfl 0 (by omega)
    have hsp := spot_none hcc
    simp only [Addr.mk.injEq, true_and] at hsp
    subst hsp
    have hcells : Hid (∀ j, j < len1 → w.cell? ⟨b, off + j, none⟩ = some (.int .u8 (ls.getD j 0))) := fun j hj => by rw [← add_plain]; exact hBc _ rfl j hj
    clear hBc hBn hcc hBl
    go_enter Trym.func5, Trym.ntmps5
    go_wp2_with fail
    refine H12.mono ?_
    rintro e w' ⟨rfl, hw⟩
    subst w'
    clear H12
    go_wp2
    go_loop [5] (fun i => ∃ k : Nat, k ≤ len1 ∧ i = .int .i64 k ∧ Hid (∀ j, j < k → ls.getD j 0 ≤ 15)) (fun i => len1 - (intOf i).toNat)
    case atStart => exact ⟨0, Nat.zero_le _, rfl, fun j hj => absurd hj (by omega)⟩
    case round =>
      obtain ⟨k, hk, rfl, HK⟩ := hrel
      by_cases hlt : k < len1
      · have hck := hcells.out k hlt
        obtain ⟨y, hy⟩ : ∃ y, y = ls.getD k 0 := ⟨_, rfl⟩
        have hlt' : (k : Int) < (len1 : Int) := by omega
        rw [← hy] at hck
        have HY := mkHid hy
        clear hy
        by_cases h15 : 15 < y
        · go_wp2
          go_ret
          exact ⟨rfl, Below.refl _ _⟩
        · go_wp2
          go_round
          case rel => exact ⟨k + 1, by omega, by go_num, fun j hj => by
            by_cases h : j < k
            · exact HK.out j h
            · have : j = k := by omega
              rw [this, ← HY.out]; omega⟩
          case measure => simp [intOf]; omega
      · obtain rfl : k = len1 := by omega
        have hlt' : ¬ (k : Int) < (k : Int) := by omega
        have hv : ∀ j, j < k → 0 ≤ ls.getD j 0 ∧ ls.getD j 0 ≤ 15 := fun j hj => ⟨hbd j, HK.out j hj⟩
        have HV : Hid (∀ j, j < k → 0 ≤ ls.getD j 0 ∧ ls.getD j 0 ≤ 15) := hv
        have HP : Hid (Pairs w a0 len0 rs) := hP
        have HB : Hid (Bytes w (some ⟨b, off, none⟩) k ls) := hB
        clear hv hP hB hbd
        go_wp2_with fail
        refine (cloneR_any a0 len0 cap0 rs w hc0 (by omega) HP.out).mono ?_
        rintro e1 w1 ⟨a0', rfl, hb1, ha0⟩
        have HA0 := mkHid ha0
        clear ha0
        go_wp2_with fail
        refine (cloneB_any (some ⟨b, off, none⟩) k cap1 ls w1 hc1 (by omega) (HB.out.below hb1)).mono ?_
        rintro e2 w2 ⟨a1', rfl, hb2, ha1⟩
        rcases ha1 with ⟨_, hx⟩ | ⟨rfl, ha1⟩
        · exact absurd hx hz1
        have HA1 := mkHid ha1
        clear ha1
        go_wp2_with fail
        refine (toProj_any a0' len0 rs w2 (by omega) HP.out.1 (pairs_carry hb2 HA0.out)).mono ?_
        rintro e3 w3 ⟨v3, rfl, hb3, hown3⟩
        have HO3 := mkHid hown3
        clear hown3
        go_wp2_with fail
        refine (clr14_any _ k w2.heap.size len0 v3 rs ls w3 (by omega) (by omega) HP.out.1 HB.out.1 hb3.size HO3.out HV.out (.inr (bytes_carry hb3 HA1.out))).mono ?_
        rintro e4 w4 ⟨v4, t, rfl, hown4, henc, hb4⟩
        have hB14 : Below w1.heap.size w1 w4 := (hb2.trans (hb3.mono hb2.size)).trans (hb4.mono hb2.size)
        have hB24 : Below w2.heap.size w2 w4 := hb3.trans hb4
        have hs1 := hb1.size
        have hs2 := hb2.size
        have hs4 := hB24.size
        have ht := henc.2
        have HE := mkHid henc
        have HO4 := mkHid hown4
        have hg4 := hown4.2
        clear hown4 henc
        rcases hg4 with ⟨rfl, hn⟩ | ⟨g, capg, cur, rfl, hbg, hgh, hlc, hcm, hx1, hx2⟩
        · exact absurd (enc_nil HB.out.1 (by have e : t = [] := List.eq_nil_of_length_eq_zero (by omega)
                                             rw [← e]; exact HE.out)) hz1
        unfold maxLen at hcm
        have htp : 0 < t.length := by
          rcases Nat.eq_zero_or_pos t.length with h | h
          · exact absurd (enc_nil HB.out.1 (by have e : t = [] := List.eq_nil_of_length_eq_zero h
                                               rw [← e]; exact HE.out)) hz1
          · exact h
        have hgw : g < w4.heap.size := (HO4.out.lt g rfl).2
        clear hgh hx1 hx2
        go_wp2_with fail
        refine (same_any _ a0' len0 _ len0 rs w4 (by omega) (by rw [HP.out.1]; omega) (by
          rcases pairs_carry hB14 HA0.out with ⟨_, h⟩ | ⟨b, hb, hab, hcb⟩
          · exact .inl h
          · refine .inr ⟨g, b, rfl, hab, hgw, by omega, fun j hj => ?_, hcb⟩
            have := cells_own2 HO4.out j (by omega)
            rw [getD_append_left' rs _ j (by rw [HP.out.1]; exact hj)] at this
            exact this)).mono ?_
        rintro e5 w5 ⟨rfl, hb5⟩
        have hs5 := hb5.size
        go_wp2_with fail
        refine (inflate_some g (len0 * 2) t.length (capg - len0) k t ls w5 (by omega) rfl (by omega) HB.out.1 (by omega) (by have := HE.out.1; rwa [List.take_of_length_le (by rw [HB.out.1]; omega)] at this) ?hcx).mono ?_
        case hcx =>
          intro j hj
          have := cells_own2 HO4.out (len0 + j) (by omega)
          have e := getD_append_right' rs t j
          rw [HP.out.1] at e
          rw [e] at this
          have e1 : (len0 + j) * 2 = len0 * 2 + j * 2 := by omega
          rw [e1] at this
          exact ⟨(hb5.cell (by exact hgw)).trans this.1, (hb5.cell (by exact hgw)).trans this.2⟩
        rintro e6 w6 ⟨rfl, hb6, hown6⟩
        have hcd := mkHid (cells_own1 hown6)
        have hs6 := hb6.size
        have hd6 : w5.heap.size < w6.heap.size := (hown6.lt _ rfl).2
        have hcl := mkHid (own1_carry (hB24.trans ((hb5.mono (by omega)).trans (hb6.mono (by omega)))) HA1.out)
        have hl2 : w1.heap.size < w2.heap.size := (HA1.out.lt _ rfl).2
        have hfin : Below w.heap.size w w6 := hb1.trans (((hB14.trans (hb5.mono (by omega))).trans (hb6.mono (by omega))).mono hs1)
        clear hown6
        go_wp2
        go_loopw [10] (fun i wx => ∃ k : Nat, k ≤ k ∧ i = .int .i64 k ∧ Below w6.heap.size w6 wx) (fun i _ => k - (intOf i).toNat)
        case atStart => exact ⟨0, Nat.zero_le _, rfl, Below.refl _ _⟩
        case round =>
          obtain ⟨q, hq, rfl, hbel⟩ := hrel
          by_cases hlt : q < k
          · have d0 : wr.cell? ⟨w5.heap.size, q, none⟩ = some (.int .u8 (ls.getD q 0)) := (hbel.cell (by exact hd6)).trans (hcd.out q hlt)
            have d1 : wr.cell? ⟨w1.heap.size, q, none⟩ = some (.int .u8 (ls.getD q 0)) := (hbel.cell (by show w1.heap.size < w6.heap.size; omega)).trans (hcl.out q hlt)
            have hq' : (q : Int) < (k : Int) := by omega
            obtain ⟨y, hy⟩ : ∃ y, y = ls.getD q 0 := ⟨_, rfl⟩
            rw [← hy] at d0 d1
            clear hy
            go_wp2
            go_quiet (fail)
            go_wp2
            go_roundw
            case rel => exact ⟨q + 1, by omega, by go_num, hbel.trans ⟨rfl, rfl, rfl, Nat.le_refl _, fun _ _ => rfl⟩⟩
            case measure => simp [intOf]; omega
          · go_wp2
            go_ret
            exact ⟨rfl, hfin.trans (hbel.mono hfin.size)⟩

end Go.Proofs.Qxb6602467aMods
