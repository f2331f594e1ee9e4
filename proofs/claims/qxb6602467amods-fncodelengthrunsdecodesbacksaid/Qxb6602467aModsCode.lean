import Derived.Test.Qxb6602467aModsPairs
namespace Go.Proofs.Qxb6602467aMods
open Go.ChangeShapes Go.WideShapes Go.ChangeAt Go.RowKit
set_option linter.unusedVariables false

/-- One more pair behind an append. -/
theorem rel_push {base n0 : Nat} {R t : List (Int × Int)} {r v' : Value} {w wr w1 : World} {o : Obj} {a b : Int} (hB : base ≤ wr.heap.size) (hR : R.length = n0)
    (hown : wr.ownsRow base 36 2 r (n0 + t.length) (flat (R ++ t))) (hbel : Below base w wr)
    (hown' : w1.ownsRow base 36 2 v' (n0 + t.length + 1) (flat (R ++ t) ++ [.int .u8 a, .int .u8 b])) (hgrow : (wr.alloc o).grownBy w1 r.ownBlock) :
    w1.ownsRow base 36 2 v' (n0 + (t ++ [(a, b)]).length) (flat (R ++ (t ++ [(a, b)]))) ∧ Below base w w1 ∧ base ≤ w1.heap.size := by
  have hb1 : Below base w w1 := (hbel.alloc hB o).grown hgrow (by simp; omega) (fun k h => (hown.lt k h).1)
  refine ⟨?_, hb1, ?_⟩
  · have e : flat (R ++ (t ++ [(a, b)])) = flat (R ++ t) ++ [.int .u8 a, .int .u8 b] := by rw [← List.append_assoc, flat_append]; rfl
    rw [e]
    simpa [Nat.add_assoc] using hown'
  · have := hgrow.size; simp at this; omega

theorem pair_cells_new {w : World} {a b : Value} {t : TypeId} : ∀ j u, [a, b][j]? = some u → (w.alloc (.cells #[a, b] t)).cell? ((⟨w.heap.size, 0, none⟩ : Addr).add j) = some u := by
  intro j u hj
  match j, hj with
  | 0, hj => simp at hj; subst hj; simp [Addr.add]
  | 1, hj => simp at hj; subst hj; simp [Addr.add]

theorem pair_oneCell (a b : Int) : ∀ u ∈ [Value.int .u8 a, Value.int .u8 b], u.oneCell' = true := by
  intro u hu
  simp at hu
  rcases hu with rfl | rfl <;> rfl

set_option maxRecDepth 100000 in
set_option maxHeartbeats 8000000 in
theorem clr_some (b len cap base n0 : Nat) (v0 : Value) (R : List (Int × Int)) (ls : List Int) (w : World) (hlen : len ≤ 524288) (hn0 : n0 ≤ 262144) (hR : R.length = n0) (hl : ls.length = len)
    (hb : b < base) (hbase : base ≤ w.heap.size) (hown : w.ownsRow base 36 2 v0 n0 (flat R))
    (hc : ∀ j, j < len → w.cell? ⟨b, j, none⟩ = some (.int .u8 (ls.getD j 0))) (hv : ∀ j, j < len → 0 ≤ ls.getD j 0 ∧ ls.getD j 0 ≤ 15) :
    Calls Trym.prog 20 #[v0, .slice (some ⟨b, 0, none⟩) len cap] w fun e w' => ∃ v t, e = .returned v ∧ w'.ownsRow base 36 2 v (n0 + t.length) (flat (R ++ t)) ∧ Runs.Enc ls len t ∧ Below base w w' := by
  obtain ⟨i0, hi, hz0, hz1, hz2⟩ := info_parts Trym.info36
  go_enter Trym.func20, Trym.ntmps20
  go_wp2
  go_loopw [0, 5] (fun r i wr => ∃ (j : Nat) (t : List (Int × Int)), j ≤ len ∧ i = .int .i64 j ∧ wr.ownsRow base 36 2 r (n0 + t.length) (flat (R ++ t)) ∧ Runs.Enc ls j t ∧ Below base w wr ∧ base ≤ wr.heap.size) (fun _ i _ => len - (intOf i).toNat)
  case atStart => exact ⟨0, [], Nat.zero_le _, rfl, by simpa using hown, Runs.Enc.zero ls, Below.refl _ _, hbase⟩
  case round =>
    clear hown
    obtain ⟨j, t, hj, rfl, hown, henc, hbel, hsz⟩ := hrel
    have ht := henc.2
    by_cases hlt : j < len
    · have hcj : wr.cell? ⟨b, j, none⟩ = some (.int .u8 (ls.getD j 0)) := (hbel.cell (by exact hb)).trans (hc j hlt)
      obtain ⟨v, hv0⟩ : ∃ v, v = ls.getD j 0 := ⟨_, rfl⟩
      rw [← hv0] at hcj
      have HV : Hid (v = ls.getD j 0) := hv0
      clear hv0
      go_wp2
      go_loop [7] (fun n => ∃ m : Nat, 1 ≤ m ∧ j + m ≤ len ∧ n = .int .i64 m ∧ Hid (∀ q, j ≤ q → q < j + m → ls.getD q 0 = v)) (fun n => len - (intOf n).toNat)
      case atStart => exact ⟨1, Nat.le_refl _, by omega, rfl, fun q a b => by rw [HV.out]; congr 1; omega⟩
      case round =>
        obtain ⟨m, hm, hjm, rfl, HR⟩ := hrel
        by_cases hlt2 : j + m < len
        · have hcm : wr.cell? ⟨b, j + m, none⟩ = some (.int .u8 (ls.getD (j + m) 0)) := (hbel.cell (by exact hb)).trans (hc (j + m) hlt2)
          obtain ⟨x, hx0⟩ : ∃ x, x = ls.getD (j + m) 0 := ⟨_, rfl⟩
          rw [← hx0] at hcm
          have HX : Hid (x = ls.getD (j + m) 0) := hx0
          clear hx0
          by_cases hxv : x = v
          · subst hxv
            go_wp2
            go_round
            case rel => exact ⟨m + 1, by omega, by omega, by go_num, fun q a b => by
              by_cases h : q < j + m
              · exact HR.out q a h
              · have : q = j + m := by omega
                rw [this, ← HX.out]⟩
            case measure => simp [intOf]; omega
          · have hxb : (x == v) = false := by simp [hxv]
            clear hxv
            have hvb := hv j (by omega)
            rw [← HV.out] at hvb
            obtain ⟨hvb0, hvb1⟩ := hvb
            by_cases hz : v = 0
            · subst hz
              go_wp2
              go_loopw [0, 7] (fun r n wx => ∃ (m1 : Nat) (t1 : List (Int × Int)), m1 ≤ m ∧ n = .int .i64 m1 ∧ wx.ownsRow base 36 2 r (n0 + t1.length) (flat (R ++ t1)) ∧ Runs.Enc ls (j + m - m1) t1 ∧ Below base w wx ∧ base ≤ wx.heap.size) (fun _ n _ => (intOf n).toNat)
              case atStart => exact ⟨m, t, Nat.le_refl _, rfl, hown, by rw [Nat.add_sub_cancel]; exact henc, hbel, hsz⟩
              case round =>
                clear hown henc hbel hsz
                obtain ⟨m1, t1, hm1, rfl, hown, henc, hbel, hsz⟩ := hrel
                have ht1 := henc.2
                by_cases h11 : 11 ≤ m1
                · by_cases h138 : m1 ≤ 138
                  · go_wp2_with (at_builtin; refine wpList_append_own _ rfl (.tmp 45) (.tmp 51) 28 rfl base 36 i0 (.agg #[.int .u8 0, .int .u8 0]) 2 2 Trym.underlying28 hi hz0 hz1 hz2 rfl (by decide) _ _ _ rfl (hown.alloc _) ⟨wr.heap.size, 0, none⟩ 1 1 [.int .u8 (18), .int .u8 ((m1 : Int) - 11)] rfl rfl pair_cells_new (pair_oneCell _ _) ?c3A ?c4A ?c5A ?_)
                    case c3A => unfold maxLen; omega
                    case c4A => omega
                    case c5A => first | omega | (simp; omega)
                    intro v2 w2 hown2 hgrow2 _
                    have RP := rel_push hsz hR hown hbel hown2 hgrow2
                    have EN : Runs.Enc ls (j + m - 0) (t1 ++ [(18, (m1 : Int) - 11)]) := by
                        have e := henc.zeros (m := m1) 18 ((m1 : Int) - 11) (by omega) (by omega) (fun q a b => HR.out q (by omega) (by omega)) (.inr ⟨rfl, rfl, h11, h138⟩)
                        have e2 : j + m - 0 = j + m - m1 + m1 := by omega
                        rw [e2]; exact e
                    clear hown2 hgrow2 hown hbel hsz henc
                    obtain ⟨hown, hbel, hsz⟩ := RP
                    go_wp2
                    go_roundw
                    case rel => exact ⟨0, t1 ++ [(18, (m1 : Int) - 11)], by omega, by go_num, hown, EN, hbel, hsz⟩
                    case measure => simp [intOf]; omega
                  · have h138' : (138 : Int) < (m1 : Int) := by omega
                    go_wp2_with (at_builtin; refine wpList_append_own _ rfl (.tmp 45) (.tmp 51) 28 rfl base 36 i0 (.agg #[.int .u8 0, .int .u8 0]) 2 2 Trym.underlying28 hi hz0 hz1 hz2 rfl (by decide) _ _ _ rfl (hown.alloc _) ⟨wr.heap.size, 0, none⟩ 1 1 [.int .u8 (18), .int .u8 (127)] rfl rfl pair_cells_new (pair_oneCell _ _) ?c3B ?c4B ?c5B ?_)
                    case c3B => unfold maxLen; omega
                    case c4B => omega
                    case c5B => first | omega | (simp; omega)
                    intro v2 w2 hown2 hgrow2 _
                    have RP := rel_push hsz hR hown hbel hown2 hgrow2
                    have EN : Runs.Enc ls (j + m - (m1 - 138)) (t1 ++ [(18, 127)]) := by
                        have e := henc.zeros (m := 138) 18 127 (by omega) (by omega) (fun q a b => HR.out q (by omega) (by omega)) (.inr ⟨rfl, rfl, by omega, by omega⟩)
                        have e2 : j + m - (m1 - 138) = j + m - m1 + 138 := by omega
                        rw [e2]; exact e
                    clear hown2 hgrow2 hown hbel hsz henc
                    obtain ⟨hown, hbel, hsz⟩ := RP
                    go_wp2
                    go_roundw
                    case rel => exact ⟨m1 - 138, t1 ++ [(18, 127)], by omega, by go_num, hown, EN, hbel, hsz⟩
                    case measure => simp [intOf]; omega
                · by_cases h3 : 3 ≤ m1
                  · go_wp2_with (at_builtin; refine wpList_append_own _ rfl (.tmp 55) (.tmp 60) 28 rfl base 36 i0 (.agg #[.int .u8 0, .int .u8 0]) 2 2 Trym.underlying28 hi hz0 hz1 hz2 rfl (by decide) _ _ _ rfl (hown.alloc _) ⟨wr.heap.size, 0, none⟩ 1 1 [.int .u8 (17), .int .u8 ((m1 : Int) - 3)] rfl rfl pair_cells_new (pair_oneCell _ _) ?c3C ?c4C ?c5C ?_)
                    case c3C => unfold maxLen; omega
                    case c4C => omega
                    case c5C => first | omega | (simp; omega)
                    intro v2 w2 hown2 hgrow2 _
                    have RP := rel_push hsz hR hown hbel hown2 hgrow2
                    have EN : Runs.Enc ls (j + m - 0) (t1 ++ [(17, (m1 : Int) - 3)]) := by
                        have e := henc.zeros (m := m1) 17 ((m1 : Int) - 3) (by omega) (by omega) (fun q a b => HR.out q (by omega) (by omega)) (.inl ⟨rfl, rfl, h3, by omega⟩)
                        have e2 : j + m - 0 = j + m - m1 + m1 := by omega
                        rw [e2]; exact e
                    clear hown2 hgrow2 hown hbel hsz henc
                    obtain ⟨hown, hbel, hsz⟩ := RP
                    go_wp2
                    go_loopw [0, 7] (fun r n wx => ∃ (m1 : Nat) (t1 : List (Int × Int)), m1 ≤ m ∧ n = .int .i64 m1 ∧ wx.ownsRow base 36 2 r (n0 + t1.length) (flat (R ++ t1)) ∧ Runs.Enc ls (j + m - m1) t1 ∧ Below base w wx ∧ base ≤ wx.heap.size) (fun _ n _ => (intOf n).toNat)
                    case atStart => exact ⟨0, t1 ++ [(17, (m1 : Int) - 3)], by omega, rfl, hown, EN, hbel, hsz⟩
                    case round =>
                      clear hown hbel hsz
                      clear EN
                      obtain ⟨m1, t1, hm1, rfl, hown, henc, hbel, hsz⟩ := hrel
                      have ht1 := henc.2
                      by_cases h0 : 0 < m1
                      · go_wp2_with (at_builtin; refine wpList_append_own _ rfl (.tmp 87) (.tmp 90) 28 rfl base 36 i0 (.agg #[.int .u8 0, .int .u8 0]) 2 2 Trym.underlying28 hi hz0 hz1 hz2 rfl (by decide) _ _ _ rfl (hown.alloc _) ⟨wr.heap.size, 0, none⟩ 1 1 [.int .u8 (0), .int .u8 (0)] rfl rfl pair_cells_new (pair_oneCell _ _) ?c3Dl ?c4Dl ?c5Dl ?_)
                        case c3Dl => unfold maxLen; omega
                        case c4Dl => omega
                        case c5Dl => first | omega | (simp; omega)
                        intro v2 w2 hown2 hgrow2 _
                        have RP := rel_push hsz hR hown hbel hown2 hgrow2
                        have EN : Runs.Enc ls (j + m - (m1 - 1)) (t1 ++ [(0, 0)]) := by
                            have e := henc.lit (0) (by omega) (HR.out _ (by omega) (by omega)) (by omega) (by omega)
                            have e2 : j + m - (m1 - 1) = j + m - m1 + 1 := by omega
                            rw [e2]; exact e
                        clear hown2 hgrow2 hown hbel hsz henc
                        obtain ⟨hown, hbel, hsz⟩ := RP
                        go_wp2
                        go_roundw
                        case rel => exact ⟨m1 - 1, t1 ++ [(0, 0)], by omega, by go_num, hown, EN, hbel, hsz⟩
                        case measure => simp [intOf]; omega
                      · go_wp2
                        go_roundw
                        case rel =>
                          have hm0 : m1 = 0 := by omega
                          rw [hm0] at henc
                          exact ⟨j + m, t1, by omega, by go_num, hown, henc, hbel, hsz⟩
                        case measure => simp [intOf]; omega
                  · go_wp2
                    go_loopw [0, 7] (fun r n wx => ∃ (m1 : Nat) (t1 : List (Int × Int)), m1 ≤ m ∧ n = .int .i64 m1 ∧ wx.ownsRow base 36 2 r (n0 + t1.length) (flat (R ++ t1)) ∧ Runs.Enc ls (j + m - m1) t1 ∧ Below base w wx ∧ base ≤ wx.heap.size) (fun _ n _ => (intOf n).toNat)
                    case atStart => exact ⟨m1, t1, by omega, rfl, hown, henc, hbel, hsz⟩
                    case round =>
                      clear hown hbel hsz
                      clear henc
                      obtain ⟨m1, t1, hm1, rfl, hown, henc, hbel, hsz⟩ := hrel
                      have ht1 := henc.2
                      by_cases h0 : 0 < m1
                      · go_wp2_with (at_builtin; refine wpList_append_own _ rfl (.tmp 87) (.tmp 90) 28 rfl base 36 i0 (.agg #[.int .u8 0, .int .u8 0]) 2 2 Trym.underlying28 hi hz0 hz1 hz2 rfl (by decide) _ _ _ rfl (hown.alloc _) ⟨wr.heap.size, 0, none⟩ 1 1 [.int .u8 (0), .int .u8 (0)] rfl rfl pair_cells_new (pair_oneCell _ _) ?c3El ?c4El ?c5El ?_)
                        case c3El => unfold maxLen; omega
                        case c4El => omega
                        case c5El => first | omega | (simp; omega)
                        intro v2 w2 hown2 hgrow2 _
                        have RP := rel_push hsz hR hown hbel hown2 hgrow2
                        have EN : Runs.Enc ls (j + m - (m1 - 1)) (t1 ++ [(0, 0)]) := by
                            have e := henc.lit (0) (by omega) (HR.out _ (by omega) (by omega)) (by omega) (by omega)
                            have e2 : j + m - (m1 - 1) = j + m - m1 + 1 := by omega
                            rw [e2]; exact e
                        clear hown2 hgrow2 hown hbel hsz henc
                        obtain ⟨hown, hbel, hsz⟩ := RP
                        go_wp2
                        go_roundw
                        case rel => exact ⟨m1 - 1, t1 ++ [(0, 0)], by omega, by go_num, hown, EN, hbel, hsz⟩
                        case measure => simp [intOf]; omega
                      · go_wp2
                        go_roundw
                        case rel =>
                          have hm0 : m1 = 0 := by omega
                          rw [hm0] at henc
                          exact ⟨j + m, t1, by omega, by go_num, hown, henc, hbel, hsz⟩
                        case measure => simp [intOf]; omega
            · have hzb : (v == 0) = false := by simp [hz]
              clear hz
              go_wp2_with (at_builtin; refine wpList_append_own _ rfl (.tmp 62) (.tmp 65) 28 rfl base 36 i0 (.agg #[.int .u8 0, .int .u8 0]) 2 2 Trym.underlying28 hi hz0 hz1 hz2 rfl (by decide) _ _ _ rfl (hown.alloc _) ⟨wr.heap.size, 0, none⟩ 1 1 [.int .u8 (v), .int .u8 (0)] rfl rfl pair_cells_new (pair_oneCell _ _) ?c3I ?c4I ?c5I ?_)
              case c3I => unfold maxLen; omega
              case c4I => omega
              case c5I => first | omega | (simp; omega)
              intro v2 w2 hown2 hgrow2 _
              have RP := rel_push hsz hR hown hbel hown2 hgrow2
              have EN0 : Runs.Enc ls (j + m - (m - 1)) (t ++ [(v, 0)]) := by
                have e := henc.lit v (by omega) (HR.out j (by omega) (by omega)) (by omega) (by omega)
                have e2 : j + m - (m - 1) = j + 1 := by omega
                rw [e2]; exact e
              clear hown2 hgrow2 hown hbel hsz henc
              obtain ⟨hown, hbel, hsz⟩ := RP
              go_wp2
              go_loopw [0, 7] (fun r n wx => ∃ (m1 : Nat) (t1 : List (Int × Int)), m1 ≤ m - 1 ∧ n = .int .i64 m1 ∧ wx.ownsRow base 36 2 r (n0 + t1.length) (flat (R ++ t1)) ∧ Runs.Enc ls (j + m - m1) t1 ∧ Below base w wx ∧ base ≤ wx.heap.size) (fun _ n _ => (intOf n).toNat)
              case atStart => exact ⟨m - 1, t ++ [(v, 0)], Nat.le_refl _, by go_num, hown, EN0, hbel, hsz⟩
              case round =>
                clear hown hbel hsz EN0
                obtain ⟨m1, t1, hm1, rfl, hown, henc, hbel, hsz⟩ := hrel
                have ht1 := henc.2
                by_cases h11 : 3 ≤ m1
                · by_cases h138 : m1 ≤ 6
                  · go_wp2_with (at_builtin; refine wpList_append_own _ rfl (.tmp 75) (.tmp 81) 28 rfl base 36 i0 (.agg #[.int .u8 0, .int .u8 0]) 2 2 Trym.underlying28 hi hz0 hz1 hz2 rfl (by decide) _ _ _ rfl (hown.alloc _) ⟨wr.heap.size, 0, none⟩ 1 1 [.int .u8 (16), .int .u8 ((m1 : Int) - 3)] rfl rfl pair_cells_new (pair_oneCell _ _) ?c3F ?c4F ?c5F ?_)
                    case c3F => unfold maxLen; omega
                    case c4F => omega
                    case c5F => first | omega | (simp; omega)
                    intro v2 w2 hown2 hgrow2 _
                    have RP := rel_push hsz hR hown hbel hown2 hgrow2
                    have EN : Runs.Enc ls (j + m - 0) (t1 ++ [(16, (m1 : Int) - 3)]) := by
                        have e := henc.same (m := m1) v ((m1 : Int) - 3) (by omega) (by omega) (fun q a b => HR.out q (by omega) (by omega)) rfl h11 h138
                        have e2 : j + m - 0 = j + m - m1 + m1 := by omega
                        rw [e2]; exact e
                    clear hown2 hgrow2 hown hbel hsz henc
                    obtain ⟨hown, hbel, hsz⟩ := RP
                    go_wp2
                    go_roundw
                    case rel => exact ⟨0, t1 ++ [(16, (m1 : Int) - 3)], by omega, by go_num, hown, EN, hbel, hsz⟩
                    case measure => simp [intOf]; omega
                  · have h138' : (6 : Int) < (m1 : Int) := by omega
                    go_wp2_with (at_builtin; refine wpList_append_own _ rfl (.tmp 75) (.tmp 81) 28 rfl base 36 i0 (.agg #[.int .u8 0, .int .u8 0]) 2 2 Trym.underlying28 hi hz0 hz1 hz2 rfl (by decide) _ _ _ rfl (hown.alloc _) ⟨wr.heap.size, 0, none⟩ 1 1 [.int .u8 (16), .int .u8 (3)] rfl rfl pair_cells_new (pair_oneCell _ _) ?c3G ?c4G ?c5G ?_)
                    case c3G => unfold maxLen; omega
                    case c4G => omega
                    case c5G => first | omega | (simp; omega)
                    intro v2 w2 hown2 hgrow2 _
                    have RP := rel_push hsz hR hown hbel hown2 hgrow2
                    have EN : Runs.Enc ls (j + m - (m1 - 6)) (t1 ++ [(16, 3)]) := by
                        have e := henc.same (m := 6) v 3 (by omega) (by omega) (fun q a b => HR.out q (by omega) (by omega)) rfl (by omega) (by omega)
                        have e2 : j + m - (m1 - 6) = j + m - m1 + 6 := by omega
                        rw [e2]; exact e
                    clear hown2 hgrow2 hown hbel hsz henc
                    obtain ⟨hown, hbel, hsz⟩ := RP
                    go_wp2
                    go_roundw
                    case rel => exact ⟨m1 - 6, t1 ++ [(16, 3)], by omega, by go_num, hown, EN, hbel, hsz⟩
                    case measure => simp [intOf]; omega
                · go_wp2
                  go_loopw [0, 7] (fun r n wx => ∃ (m1 : Nat) (t1 : List (Int × Int)), m1 ≤ m ∧ n = .int .i64 m1 ∧ wx.ownsRow base 36 2 r (n0 + t1.length) (flat (R ++ t1)) ∧ Runs.Enc ls (j + m - m1) t1 ∧ Below base w wx ∧ base ≤ wx.heap.size) (fun _ n _ => (intOf n).toNat)
                  case atStart => exact ⟨m1, t1, by omega, rfl, hown, henc, hbel, hsz⟩
                  case round =>
                    clear hown hbel hsz
                    clear henc
                    obtain ⟨m1, t1, hm1, rfl, hown, henc, hbel, hsz⟩ := hrel
                    have ht1 := henc.2
                    by_cases h0 : 0 < m1
                    · go_wp2_with (at_builtin; refine wpList_append_own _ rfl (.tmp 87) (.tmp 90) 28 rfl base 36 i0 (.agg #[.int .u8 0, .int .u8 0]) 2 2 Trym.underlying28 hi hz0 hz1 hz2 rfl (by decide) _ _ _ rfl (hown.alloc _) ⟨wr.heap.size, 0, none⟩ 1 1 [.int .u8 (v), .int .u8 (0)] rfl rfl pair_cells_new (pair_oneCell _ _) ?c3Hl ?c4Hl ?c5Hl ?_)
                      case c3Hl => unfold maxLen; omega
                      case c4Hl => omega
                      case c5Hl => first | omega | (simp; omega)
                      intro v2 w2 hown2 hgrow2 _
                      have RP := rel_push hsz hR hown hbel hown2 hgrow2
                      have EN : Runs.Enc ls (j + m - (m1 - 1)) (t1 ++ [(v, 0)]) := by
                          have e := henc.lit (v) (by omega) (HR.out _ (by omega) (by omega)) (by omega) (by omega)
                          have e2 : j + m - (m1 - 1) = j + m - m1 + 1 := by omega
                          rw [e2]; exact e
                      clear hown2 hgrow2 hown hbel hsz henc
                      obtain ⟨hown, hbel, hsz⟩ := RP
                      go_wp2
                      go_roundw
                      case rel => exact ⟨m1 - 1, t1 ++ [(v, 0)], by omega, by go_num, hown, EN, hbel, hsz⟩
                      case measure => simp [intOf]; omega
                    · go_wp2
                      go_roundw
                      case rel =>
                        have hm0 : m1 = 0 := by omega
                        rw [hm0] at henc
                        exact ⟨j + m, t1, by omega, by go_num, hown, henc, hbel, hsz⟩
                      case measure => simp [intOf]; omega
        · skip
          have hvb := hv j (by omega)
          rw [← HV.out] at hvb
          obtain ⟨hvb0, hvb1⟩ := hvb
          by_cases hz : v = 0
          · subst hz
            go_wp2
            go_loopw [0, 7] (fun r n wx => ∃ (m1 : Nat) (t1 : List (Int × Int)), m1 ≤ m ∧ n = .int .i64 m1 ∧ wx.ownsRow base 36 2 r (n0 + t1.length) (flat (R ++ t1)) ∧ Runs.Enc ls (j + m - m1) t1 ∧ Below base w wx ∧ base ≤ wx.heap.size) (fun _ n _ => (intOf n).toNat)
            case atStart => exact ⟨m, t, Nat.le_refl _, rfl, hown, by rw [Nat.add_sub_cancel]; exact henc, hbel, hsz⟩
            case round =>
              clear hown henc hbel hsz
              obtain ⟨m1, t1, hm1, rfl, hown, henc, hbel, hsz⟩ := hrel
              have ht1 := henc.2
              by_cases h11 : 11 ≤ m1
              · by_cases h138 : m1 ≤ 138
                · go_wp2_with (at_builtin; refine wpList_append_own _ rfl (.tmp 45) (.tmp 51) 28 rfl base 36 i0 (.agg #[.int .u8 0, .int .u8 0]) 2 2 Trym.underlying28 hi hz0 hz1 hz2 rfl (by decide) _ _ _ rfl (hown.alloc _) ⟨wr.heap.size, 0, none⟩ 1 1 [.int .u8 (18), .int .u8 ((m1 : Int) - 11)] rfl rfl pair_cells_new (pair_oneCell _ _) ?c3A ?c4A ?c5A ?_)
                  case c3A => unfold maxLen; omega
                  case c4A => omega
                  case c5A => first | omega | (simp; omega)
                  intro v2 w2 hown2 hgrow2 _
                  have RP := rel_push hsz hR hown hbel hown2 hgrow2
                  have EN : Runs.Enc ls (j + m - 0) (t1 ++ [(18, (m1 : Int) - 11)]) := by
                      have e := henc.zeros (m := m1) 18 ((m1 : Int) - 11) (by omega) (by omega) (fun q a b => HR.out q (by omega) (by omega)) (.inr ⟨rfl, rfl, h11, h138⟩)
                      have e2 : j + m - 0 = j + m - m1 + m1 := by omega
                      rw [e2]; exact e
                  clear hown2 hgrow2 hown hbel hsz henc
                  obtain ⟨hown, hbel, hsz⟩ := RP
                  go_wp2
                  go_roundw
                  case rel => exact ⟨0, t1 ++ [(18, (m1 : Int) - 11)], by omega, by go_num, hown, EN, hbel, hsz⟩
                  case measure => simp [intOf]; omega
                · have h138' : (138 : Int) < (m1 : Int) := by omega
                  go_wp2_with (at_builtin; refine wpList_append_own _ rfl (.tmp 45) (.tmp 51) 28 rfl base 36 i0 (.agg #[.int .u8 0, .int .u8 0]) 2 2 Trym.underlying28 hi hz0 hz1 hz2 rfl (by decide) _ _ _ rfl (hown.alloc _) ⟨wr.heap.size, 0, none⟩ 1 1 [.int .u8 (18), .int .u8 (127)] rfl rfl pair_cells_new (pair_oneCell _ _) ?c3B ?c4B ?c5B ?_)
                  case c3B => unfold maxLen; omega
                  case c4B => omega
                  case c5B => first | omega | (simp; omega)
                  intro v2 w2 hown2 hgrow2 _
                  have RP := rel_push hsz hR hown hbel hown2 hgrow2
                  have EN : Runs.Enc ls (j + m - (m1 - 138)) (t1 ++ [(18, 127)]) := by
                      have e := henc.zeros (m := 138) 18 127 (by omega) (by omega) (fun q a b => HR.out q (by omega) (by omega)) (.inr ⟨rfl, rfl, by omega, by omega⟩)
                      have e2 : j + m - (m1 - 138) = j + m - m1 + 138 := by omega
                      rw [e2]; exact e
                  clear hown2 hgrow2 hown hbel hsz henc
                  obtain ⟨hown, hbel, hsz⟩ := RP
                  go_wp2
                  go_roundw
                  case rel => exact ⟨m1 - 138, t1 ++ [(18, 127)], by omega, by go_num, hown, EN, hbel, hsz⟩
                  case measure => simp [intOf]; omega
              · by_cases h3 : 3 ≤ m1
                · go_wp2_with (at_builtin; refine wpList_append_own _ rfl (.tmp 55) (.tmp 60) 28 rfl base 36 i0 (.agg #[.int .u8 0, .int .u8 0]) 2 2 Trym.underlying28 hi hz0 hz1 hz2 rfl (by decide) _ _ _ rfl (hown.alloc _) ⟨wr.heap.size, 0, none⟩ 1 1 [.int .u8 (17), .int .u8 ((m1 : Int) - 3)] rfl rfl pair_cells_new (pair_oneCell _ _) ?c3C ?c4C ?c5C ?_)
                  case c3C => unfold maxLen; omega
                  case c4C => omega
                  case c5C => first | omega | (simp; omega)
                  intro v2 w2 hown2 hgrow2 _
                  have RP := rel_push hsz hR hown hbel hown2 hgrow2
                  have EN : Runs.Enc ls (j + m - 0) (t1 ++ [(17, (m1 : Int) - 3)]) := by
                      have e := henc.zeros (m := m1) 17 ((m1 : Int) - 3) (by omega) (by omega) (fun q a b => HR.out q (by omega) (by omega)) (.inl ⟨rfl, rfl, h3, by omega⟩)
                      have e2 : j + m - 0 = j + m - m1 + m1 := by omega
                      rw [e2]; exact e
                  clear hown2 hgrow2 hown hbel hsz henc
                  obtain ⟨hown, hbel, hsz⟩ := RP
                  go_wp2
                  go_loopw [0, 7] (fun r n wx => ∃ (m1 : Nat) (t1 : List (Int × Int)), m1 ≤ m ∧ n = .int .i64 m1 ∧ wx.ownsRow base 36 2 r (n0 + t1.length) (flat (R ++ t1)) ∧ Runs.Enc ls (j + m - m1) t1 ∧ Below base w wx ∧ base ≤ wx.heap.size) (fun _ n _ => (intOf n).toNat)
                  case atStart => exact ⟨0, t1 ++ [(17, (m1 : Int) - 3)], by omega, rfl, hown, EN, hbel, hsz⟩
                  case round =>
                    clear hown hbel hsz
                    clear EN
                    obtain ⟨m1, t1, hm1, rfl, hown, henc, hbel, hsz⟩ := hrel
                    have ht1 := henc.2
                    by_cases h0 : 0 < m1
                    · go_wp2_with (at_builtin; refine wpList_append_own _ rfl (.tmp 87) (.tmp 90) 28 rfl base 36 i0 (.agg #[.int .u8 0, .int .u8 0]) 2 2 Trym.underlying28 hi hz0 hz1 hz2 rfl (by decide) _ _ _ rfl (hown.alloc _) ⟨wr.heap.size, 0, none⟩ 1 1 [.int .u8 (0), .int .u8 (0)] rfl rfl pair_cells_new (pair_oneCell _ _) ?c3Dl ?c4Dl ?c5Dl ?_)
                      case c3Dl => unfold maxLen; omega
                      case c4Dl => omega
                      case c5Dl => first | omega | (simp; omega)
                      intro v2 w2 hown2 hgrow2 _
                      have RP := rel_push hsz hR hown hbel hown2 hgrow2
                      have EN : Runs.Enc ls (j + m - (m1 - 1)) (t1 ++ [(0, 0)]) := by
                          have e := henc.lit (0) (by omega) (HR.out _ (by omega) (by omega)) (by omega) (by omega)
                          have e2 : j + m - (m1 - 1) = j + m - m1 + 1 := by omega
                          rw [e2]; exact e
                      clear hown2 hgrow2 hown hbel hsz henc
                      obtain ⟨hown, hbel, hsz⟩ := RP
                      go_wp2
                      go_roundw
                      case rel => exact ⟨m1 - 1, t1 ++ [(0, 0)], by omega, by go_num, hown, EN, hbel, hsz⟩
                      case measure => simp [intOf]; omega
                    · go_wp2
                      go_roundw
                      case rel =>
                        have hm0 : m1 = 0 := by omega
                        rw [hm0] at henc
                        exact ⟨j + m, t1, by omega, by go_num, hown, henc, hbel, hsz⟩
                      case measure => simp [intOf]; omega
                · go_wp2
                  go_loopw [0, 7] (fun r n wx => ∃ (m1 : Nat) (t1 : List (Int × Int)), m1 ≤ m ∧ n = .int .i64 m1 ∧ wx.ownsRow base 36 2 r (n0 + t1.length) (flat (R ++ t1)) ∧ Runs.Enc ls (j + m - m1) t1 ∧ Below base w wx ∧ base ≤ wx.heap.size) (fun _ n _ => (intOf n).toNat)
                  case atStart => exact ⟨m1, t1, by omega, rfl, hown, henc, hbel, hsz⟩
                  case round =>
                    clear hown hbel hsz
                    clear henc
                    obtain ⟨m1, t1, hm1, rfl, hown, henc, hbel, hsz⟩ := hrel
                    have ht1 := henc.2
                    by_cases h0 : 0 < m1
                    · go_wp2_with (at_builtin; refine wpList_append_own _ rfl (.tmp 87) (.tmp 90) 28 rfl base 36 i0 (.agg #[.int .u8 0, .int .u8 0]) 2 2 Trym.underlying28 hi hz0 hz1 hz2 rfl (by decide) _ _ _ rfl (hown.alloc _) ⟨wr.heap.size, 0, none⟩ 1 1 [.int .u8 (0), .int .u8 (0)] rfl rfl pair_cells_new (pair_oneCell _ _) ?c3El ?c4El ?c5El ?_)
                      case c3El => unfold maxLen; omega
                      case c4El => omega
                      case c5El => first | omega | (simp; omega)
                      intro v2 w2 hown2 hgrow2 _
                      have RP := rel_push hsz hR hown hbel hown2 hgrow2
                      have EN : Runs.Enc ls (j + m - (m1 - 1)) (t1 ++ [(0, 0)]) := by
                          have e := henc.lit (0) (by omega) (HR.out _ (by omega) (by omega)) (by omega) (by omega)
                          have e2 : j + m - (m1 - 1) = j + m - m1 + 1 := by omega
                          rw [e2]; exact e
                      clear hown2 hgrow2 hown hbel hsz henc
                      obtain ⟨hown, hbel, hsz⟩ := RP
                      go_wp2
                      go_roundw
                      case rel => exact ⟨m1 - 1, t1 ++ [(0, 0)], by omega, by go_num, hown, EN, hbel, hsz⟩
                      case measure => simp [intOf]; omega
                    · go_wp2
                      go_roundw
                      case rel =>
                        have hm0 : m1 = 0 := by omega
                        rw [hm0] at henc
                        exact ⟨j + m, t1, by omega, by go_num, hown, henc, hbel, hsz⟩
                      case measure => simp [intOf]; omega
          · have hzb : (v == 0) = false := by simp [hz]
            clear hz
            go_wp2_with (at_builtin; refine wpList_append_own _ rfl (.tmp 62) (.tmp 65) 28 rfl base 36 i0 (.agg #[.int .u8 0, .int .u8 0]) 2 2 Trym.underlying28 hi hz0 hz1 hz2 rfl (by decide) _ _ _ rfl (hown.alloc _) ⟨wr.heap.size, 0, none⟩ 1 1 [.int .u8 (v), .int .u8 (0)] rfl rfl pair_cells_new (pair_oneCell _ _) ?c3I ?c4I ?c5I ?_)
            case c3I => unfold maxLen; omega
            case c4I => omega
            case c5I => first | omega | (simp; omega)
            intro v2 w2 hown2 hgrow2 _
            have RP := rel_push hsz hR hown hbel hown2 hgrow2
            have EN0 : Runs.Enc ls (j + m - (m - 1)) (t ++ [(v, 0)]) := by
              have e := henc.lit v (by omega) (HR.out j (by omega) (by omega)) (by omega) (by omega)
              have e2 : j + m - (m - 1) = j + 1 := by omega
              rw [e2]; exact e
            clear hown2 hgrow2 hown hbel hsz henc
            obtain ⟨hown, hbel, hsz⟩ := RP
            go_wp2
            go_loopw [0, 7] (fun r n wx => ∃ (m1 : Nat) (t1 : List (Int × Int)), m1 ≤ m - 1 ∧ n = .int .i64 m1 ∧ wx.ownsRow base 36 2 r (n0 + t1.length) (flat (R ++ t1)) ∧ Runs.Enc ls (j + m - m1) t1 ∧ Below base w wx ∧ base ≤ wx.heap.size) (fun _ n _ => (intOf n).toNat)
            case atStart => exact ⟨m - 1, t ++ [(v, 0)], Nat.le_refl _, by go_num, hown, EN0, hbel, hsz⟩
            case round =>
              clear hown hbel hsz EN0
              obtain ⟨m1, t1, hm1, rfl, hown, henc, hbel, hsz⟩ := hrel
              have ht1 := henc.2
              by_cases h11 : 3 ≤ m1
              · by_cases h138 : m1 ≤ 6
                · go_wp2_with (at_builtin; refine wpList_append_own _ rfl (.tmp 75) (.tmp 81) 28 rfl base 36 i0 (.agg #[.int .u8 0, .int .u8 0]) 2 2 Trym.underlying28 hi hz0 hz1 hz2 rfl (by decide) _ _ _ rfl (hown.alloc _) ⟨wr.heap.size, 0, none⟩ 1 1 [.int .u8 (16), .int .u8 ((m1 : Int) - 3)] rfl rfl pair_cells_new (pair_oneCell _ _) ?c3F ?c4F ?c5F ?_)
                  case c3F => unfold maxLen; omega
                  case c4F => omega
                  case c5F => first | omega | (simp; omega)
                  intro v2 w2 hown2 hgrow2 _
                  have RP := rel_push hsz hR hown hbel hown2 hgrow2
                  have EN : Runs.Enc ls (j + m - 0) (t1 ++ [(16, (m1 : Int) - 3)]) := by
                      have e := henc.same (m := m1) v ((m1 : Int) - 3) (by omega) (by omega) (fun q a b => HR.out q (by omega) (by omega)) rfl h11 h138
                      have e2 : j + m - 0 = j + m - m1 + m1 := by omega
                      rw [e2]; exact e
                  clear hown2 hgrow2 hown hbel hsz henc
                  obtain ⟨hown, hbel, hsz⟩ := RP
                  go_wp2
                  go_roundw
                  case rel => exact ⟨0, t1 ++ [(16, (m1 : Int) - 3)], by omega, by go_num, hown, EN, hbel, hsz⟩
                  case measure => simp [intOf]; omega
                · have h138' : (6 : Int) < (m1 : Int) := by omega
                  go_wp2_with (at_builtin; refine wpList_append_own _ rfl (.tmp 75) (.tmp 81) 28 rfl base 36 i0 (.agg #[.int .u8 0, .int .u8 0]) 2 2 Trym.underlying28 hi hz0 hz1 hz2 rfl (by decide) _ _ _ rfl (hown.alloc _) ⟨wr.heap.size, 0, none⟩ 1 1 [.int .u8 (16), .int .u8 (3)] rfl rfl pair_cells_new (pair_oneCell _ _) ?c3G ?c4G ?c5G ?_)
                  case c3G => unfold maxLen; omega
                  case c4G => omega
                  case c5G => first | omega | (simp; omega)
                  intro v2 w2 hown2 hgrow2 _
                  have RP := rel_push hsz hR hown hbel hown2 hgrow2
                  have EN : Runs.Enc ls (j + m - (m1 - 6)) (t1 ++ [(16, 3)]) := by
                      have e := henc.same (m := 6) v 3 (by omega) (by omega) (fun q a b => HR.out q (by omega) (by omega)) rfl (by omega) (by omega)
                      have e2 : j + m - (m1 - 6) = j + m - m1 + 6 := by omega
                      rw [e2]; exact e
                  clear hown2 hgrow2 hown hbel hsz henc
                  obtain ⟨hown, hbel, hsz⟩ := RP
                  go_wp2
                  go_roundw
                  case rel => exact ⟨m1 - 6, t1 ++ [(16, 3)], by omega, by go_num, hown, EN, hbel, hsz⟩
                  case measure => simp [intOf]; omega
              · go_wp2
                go_loopw [0, 7] (fun r n wx => ∃ (m1 : Nat) (t1 : List (Int × Int)), m1 ≤ m ∧ n = .int .i64 m1 ∧ wx.ownsRow base 36 2 r (n0 + t1.length) (flat (R ++ t1)) ∧ Runs.Enc ls (j + m - m1) t1 ∧ Below base w wx ∧ base ≤ wx.heap.size) (fun _ n _ => (intOf n).toNat)
                case atStart => exact ⟨m1, t1, by omega, rfl, hown, henc, hbel, hsz⟩
                case round =>
                  clear hown hbel hsz
                  clear henc
                  obtain ⟨m1, t1, hm1, rfl, hown, henc, hbel, hsz⟩ := hrel
                  have ht1 := henc.2
                  by_cases h0 : 0 < m1
                  · go_wp2_with (at_builtin; refine wpList_append_own _ rfl (.tmp 87) (.tmp 90) 28 rfl base 36 i0 (.agg #[.int .u8 0, .int .u8 0]) 2 2 Trym.underlying28 hi hz0 hz1 hz2 rfl (by decide) _ _ _ rfl (hown.alloc _) ⟨wr.heap.size, 0, none⟩ 1 1 [.int .u8 (v), .int .u8 (0)] rfl rfl pair_cells_new (pair_oneCell _ _) ?c3Hl ?c4Hl ?c5Hl ?_)
                    case c3Hl => unfold maxLen; omega
                    case c4Hl => omega
                    case c5Hl => first | omega | (simp; omega)
                    intro v2 w2 hown2 hgrow2 _
                    have RP := rel_push hsz hR hown hbel hown2 hgrow2
                    have EN : Runs.Enc ls (j + m - (m1 - 1)) (t1 ++ [(v, 0)]) := by
                        have e := henc.lit (v) (by omega) (HR.out _ (by omega) (by omega)) (by omega) (by omega)
                        have e2 : j + m - (m1 - 1) = j + m - m1 + 1 := by omega
                        rw [e2]; exact e
                    clear hown2 hgrow2 hown hbel hsz henc
                    obtain ⟨hown, hbel, hsz⟩ := RP
                    go_wp2
                    go_roundw
                    case rel => exact ⟨m1 - 1, t1 ++ [(v, 0)], by omega, by go_num, hown, EN, hbel, hsz⟩
                    case measure => simp [intOf]; omega
                  · go_wp2
                    go_roundw
                    case rel =>
                      have hm0 : m1 = 0 := by omega
                      rw [hm0] at henc
                      exact ⟨j + m, t1, by omega, by go_num, hown, henc, hbel, hsz⟩
                    case measure => simp [intOf]; omega
    · have hjl : j = len := by omega
      subst hjl
      go_wp2
      go_ret
      exact ⟨_, t, rfl, hown, henc, hbel⟩

end Go.Proofs.Qxb6602467aMods
