import Derived.Test.Qxb6602467aModsPairs
namespace Go.Proofs.Qxb6602467aMods
open Go.ChangeShapes Go.WideShapes Go.ChangeAt Go.RowKit
set_option linter.unusedVariables false

theorem one_cell_new {w : World} {a : Value} {t : TypeId} : ∀ j u, [a][j]? = some u → (w.alloc (.cells #[a] t)).cell? ((⟨w.heap.size, 0, none⟩ : Addr).add j) = some u := by
  intro j u hj
  match j, hj with
  | 0, hj => simp at hj; subst hj; simp [Addr.add]

theorem int_oneCell (a : Int) : ∀ u ∈ [Value.int .u8 a], u.oneCell' = true := by
  intro u hu
  simp at hu
  subst hu; rfl

theorem inflate_empty (a : Option Addr) (c : Nat) (w : World) :
    Calls Trym.prog 17 #[.slice a 0 c, .int .i64 0] w fun e w' => e = .returned (.tuple #[.slice (some ⟨w.heap.size, 0, none⟩) 0 0, .bool true]) ∧ Below w.heap.size w w' := by
  obtain ⟨i0, hi, hz0, hz1, hz2⟩ := info_parts Trym.info5
  go_enter Trym.func17, Trym.ntmps17
  go_wp2_with (at_make; refine wpList_make_own _ rfl _ _ 22 rfl w.heap.size 5 i0 (.int .u8 0) 1 Trym.underlying22 hi hz0 hz1 _ _ _ 0 rfl rfl rfl ?b2 ?b3 (Nat.le_refl _) ?_)
  case b2 => omega
  case b3 => unfold maxLen; omega
  intro w1 hown hgrow
  have hbel : Below w.heap.size w w1 := (Below.refl _ _).grown hgrow (Nat.le_refl _) (fun k h => by cases h)
  clear hgrow hown
  go_wp2
  refine wp_loop_rounds 1 ?_
  rw [rounds_succ]; go_wp2
  go_ret2
  exact ⟨rfl, hbel⟩

/-- The inner loop's step on lists. -/
theorem infl_step (o o2 : List Int) (V : Int) (N q : Nat) (hq : 0 < q) (hqN : q ≤ N) (h : o2 = o ++ List.replicate (N - q) V) : o2 ++ [V] = o ++ List.replicate (N - (q - 1)) V := by
  have e : N - (q - 1) = N - q + 1 := by omega
  rw [h, e, List.append_assoc, ← List.replicate_succ']

theorem drop_cons_getD (t : List (Int × Int)) (k : Nat) (h : k < t.length) : t.drop k = t.getD k (0, 0) :: t.drop (k + 1) := by
  rw [List.drop_eq_getElem_cons h]
  simp [List.getD, h]

set_option maxRecDepth 100000 in
set_option maxHeartbeats 8000000 in
theorem inflate_some (g f n cap L : Nat) (t : List (Int × Int)) (ls : List Int) (w : World) (hL : L ≤ 524288) (hn : t.length = n) (hn1 : n ≤ 524288) (hl : ls.length = L) (hg : g < w.heap.size)
    (hd : Runs.Dec [] t ls)
    (hc : ∀ j, j < n → w.cell? ⟨g, f + j * 2, none⟩ = some (.int .u8 (t.getD j (0, 0)).1) ∧ w.cell? ⟨g, f + j * 2 + 1, none⟩ = some (.int .u8 (t.getD j (0, 0)).2)) :
    Calls Trym.prog 17 #[.slice (some ⟨g, f, none⟩) n cap, .int .i64 L] w fun e w' => e = .returned (.tuple #[.slice (some ⟨w.heap.size, 0, none⟩) L L, .bool true]) ∧ Below w.heap.size w w' ∧
      w'.ownsRow w.heap.size 5 1 (.slice (some ⟨w.heap.size, 0, none⟩) L L) L (ls.map (Value.int .u8)) := by
  obtain ⟨i0, hi, hz0, hz1, hz2⟩ := info_parts Trym.info5
  go_enter Trym.func17, Trym.ntmps17
  go_wp2_with (at_make; refine wpList_make_own _ rfl _ _ 22 rfl w.heap.size 5 i0 (.int .u8 0) 1 Trym.underlying22 hi hz0 hz1 _ _ _ L rfl rfl rfl ?b2 ?b3 (Nat.le_refl _) ?_)
  case b2 => rw [hz2]; omega
  case b3 => unfold maxLen; omega
  intro w1 hown hgrow
  have hbel : Below w.heap.size w w1 := (Below.refl _ _).grown hgrow (Nat.le_refl _) (fun k h => by cases h)
  clear hgrow
  go_wp2
  go_loopw [6, 7] (fun ov i wr => ∃ (k : Nat) (o : List Int), k ≤ n ∧ i = .int .i64 k ∧ ov = .slice (some ⟨w.heap.size, 0, none⟩) o.length L ∧ wr.ownsRow w.heap.size 5 1 (.slice (some ⟨w.heap.size, 0, none⟩) o.length L) o.length (o.map (Value.int .u8)) ∧ Hid (Runs.Dec o (t.drop k) ls) ∧ Below w.heap.size w wr) (fun _ i _ => n - (intOf i).toNat)
  case atStart => exact ⟨0, [], Nat.zero_le _, rfl, rfl, hown, (show Runs.Dec [] (t.drop 0) ls from hd), hbel⟩
  case round =>
    clear hown hbel hd
    obtain ⟨k, o, hk, rfl, rfl, hown, hdec, hbel⟩ := hrel
    by_cases hlt : k < n
    · have hc0 : wr.cell? ⟨g, f + k * 2, none⟩ = some (.int .u8 (t.getD k (0, 0)).1) := (hbel.cell (by exact hg)).trans (hc k hlt).1
      have hc1 : wr.cell? ⟨g, f + k * 2 + 1, none⟩ = some (.int .u8 (t.getD k (0, 0)).2) := (hbel.cell (by exact hg)).trans (hc k hlt).2
      have hd1 : Runs.Dec o (t.getD k (0, 0) :: t.drop (k + 1)) ls := by rw [← drop_cons_getD t k (by omega)]; exact hdec.out
      obtain ⟨s, e, hp⟩ : ∃ s e, t.getD k (0, 0) = (s, e) := ⟨_, _, rfl⟩
      rw [hp] at hc0 hc1 hd1
      clear hp
      obtain ⟨hok, hd2⟩ := hd1
      have hsz : w.heap.size < wr.heap.size := (hown.lt _ rfl).2
      have hgr : g < wr.heap.size := by omega
      have hsp := hd2.len
      rw [List.length_append, List.length_replicate, hl] at hsp
      simp only [] at hc0 hc1
      obtain ⟨hok0, hok1, hok2⟩ := hok
      simp only [] at hok0 hok1 hok2
      clear hdec
      have HD2 : Hid (Runs.Dec (o ++ List.replicate (Runs.reps (s, e)) (Runs.val o (s, e))) (t.drop (k + 1)) ls) := hd2
      clear hd2
      rcases hok2 with ⟨hs, rfl⟩ | ⟨rfl, he, ho⟩ | ⟨rfl, he⟩ | ⟨rfl, he⟩
      · have hre : Runs.reps (s, 0) = 1 := by simp [Runs.reps, hs]
        have hva : Runs.val o (s, 0) = s := by simp [Runs.val, hs]
        obtain ⟨N, hN⟩ : ∃ N : Nat, Runs.reps (s, 0) = N := ⟨_, rfl⟩
        have HD3 : Hid (Runs.Dec (o ++ List.replicate N (s)) (t.drop (k + 1)) ls) := by
          have := HD2.out
          rw [hva, hN] at this
          exact this
        rw [hN] at hsp hre
        have HN : Hid (N = 1) := hre
        have hfit : (1 : Int) ≤ (L : Int) - (o.length : Int) := by omega
        clear hN HD2 hre hva
        go_wp2_with fail
        refine (sym_any _ _ _).mono ?_
        rintro e1 w1' ⟨rfl, rfl⟩
        go_wp2_with fail
        refine (ext_any _ _ _).mono ?_
        rintro e1 w1' ⟨rfl, rfl⟩
        go_wp2
        go_loopw [6, 11] (fun ov r wx => ∃ (q : Nat) (o2 : List Int), q ≤ N ∧ r = .int .i64 q ∧ ov = .slice (some ⟨w.heap.size, 0, none⟩) o2.length L ∧ wx.ownsRow w.heap.size 5 1 (.slice (some ⟨w.heap.size, 0, none⟩) o2.length L) o2.length (o2.map (Value.int .u8)) ∧ o2.length + q ≤ L ∧ Hid (o2 = o ++ List.replicate (N - q) (s)) ∧ Below w.heap.size w wx) (fun _ r _ => (intOf r).toNat)
        case atStart => exact ⟨N, o, Nat.le_refl _, by rw [HN.out]; go_num, rfl, (hown.alloc _).alloc _, hsp, by simp [Hid], (hbel.alloc (by omega) _).alloc (by simp; omega) _⟩
        case round =>
          clear hown hbel hsz hgr hc0 hc1
          obtain ⟨q, o2, hq, rfl, rfl, hown, hsp2, HO, hbel⟩ := hrel
          by_cases h0 : 0 < q
          · go_wp2_with (at_builtin; refine wpList_append_fits _ rfl (.tmp 77) (.tmp 79) 22 rfl w.heap.size 5 i0 1 Trym.underlying22 hi hz1 w.heap.size o2.length L _ rfl (hown.alloc _) ⟨wr.heap.size, 0, none⟩ 1 1 [.int .u8 (s)] rfl rfl one_cell_new (int_oneCell _) ?c1A ?_)
            case c1A => omega
            intro w2 hown2 hgrow2
            have hwz : w.heap.size < wr.heap.size := (hown.lt _ rfl).2
            have hbel2 : Below w.heap.size w w2 := (hbel.alloc (by omega) _).grown hgrow2 (by simp; omega) (fun k h => by cases h; exact Nat.le_refl _)
            have hown3 : w2.ownsRow w.heap.size 5 1 (.slice (some ⟨w.heap.size, 0, none⟩) (o2 ++ [s]).length L) (o2 ++ [s]).length ((o2 ++ [s]).map (Value.int .u8)) := by simpa using hown2
            have HO3 : Hid (o2 ++ [s] = o ++ List.replicate (N - (q - 1)) (s)) := infl_step o o2 _ N q h0 hq HO.out
            clear hown hown2 hgrow2 hbel HO
            go_wp2
            go_roundw
            case rel => exact ⟨q - 1, o2 ++ [s], by omega, by go_num, by simp, hown3, by simp; omega, HO3, hbel2⟩
            case measure => simp [intOf]; omega
          · go_wp2
            go_roundw
            case rel =>
              have hq0 : q = 0 := by omega
              have e := HO.out
              rw [hq0, Nat.sub_zero] at e
              exact ⟨k + 1, o2, by omega, by go_num, rfl, hown, by rw [e]; exact HD3.out, hbel⟩
            case measure => simp [intOf]; omega
      · have hre : Runs.reps (16, e) = (3 + e).toNat := by simp [Runs.reps]
        have hva : Runs.val o (16, e) = o.getD (o.length - 1) 0 := by simp [Runs.val]
        have hol : (o.length : Int) ≥ 1 := by omega
        have hlast : wr.cell? ⟨w.heap.size, o.length - 1, none⟩ = some (.int .u8 (o.getD (o.length - 1) 0)) := by
          rw [hown.cellAt (o.length - 1) (by omega)]
          simp [List.getD, show o.length - 1 < o.length from Nat.sub_lt ho Nat.one_pos]
        obtain ⟨vl, hvl⟩ : ∃ vl, vl = o.getD (o.length - 1) 0 := ⟨_, rfl⟩
        rw [← hvl] at hlast hva
        clear hvl
        have hne : ((o.length : Int) == 0) = false := beq_eq_false_iff_ne.2 (by omega)
        obtain ⟨N, hN⟩ : ∃ N : Nat, Runs.reps (16, e) = N := ⟨_, rfl⟩
        have HD3 : Hid (Runs.Dec (o ++ List.replicate N (vl)) (t.drop (k + 1)) ls) := by
          have := HD2.out
          rw [hva, hN] at this
          exact this
        rw [hN] at hsp hre
        have HN : Hid (N = (3 + e).toNat) := hre
        have hfit : ((3 + e) : Int) ≤ (L : Int) - (o.length : Int) := by omega
        clear hN HD2 hre hva
        go_wp2_with fail
        refine (sym_any _ _ _).mono ?_
        rintro e1 w1' ⟨rfl, rfl⟩
        go_wp2_with fail
        refine (ext_any _ _ _).mono ?_
        rintro e1 w1' ⟨rfl, rfl⟩
        go_wp2
        go_loopw [6, 11] (fun ov r wx => ∃ (q : Nat) (o2 : List Int), q ≤ N ∧ r = .int .i64 q ∧ ov = .slice (some ⟨w.heap.size, 0, none⟩) o2.length L ∧ wx.ownsRow w.heap.size 5 1 (.slice (some ⟨w.heap.size, 0, none⟩) o2.length L) o2.length (o2.map (Value.int .u8)) ∧ o2.length + q ≤ L ∧ Hid (o2 = o ++ List.replicate (N - q) (vl)) ∧ Below w.heap.size w wx) (fun _ r _ => (intOf r).toNat)
        case atStart => exact ⟨N, o, Nat.le_refl _, by rw [HN.out]; go_num, rfl, (hown.alloc _).alloc _, hsp, by simp [Hid], (hbel.alloc (by omega) _).alloc (by simp; omega) _⟩
        case round =>
          clear hown hbel hsz hgr hc0 hc1
          obtain ⟨q, o2, hq, rfl, rfl, hown, hsp2, HO, hbel⟩ := hrel
          by_cases h0 : 0 < q
          · go_wp2_with (at_builtin; refine wpList_append_fits _ rfl (.tmp 77) (.tmp 79) 22 rfl w.heap.size 5 i0 1 Trym.underlying22 hi hz1 w.heap.size o2.length L _ rfl (hown.alloc _) ⟨wr.heap.size, 0, none⟩ 1 1 [.int .u8 (vl)] rfl rfl one_cell_new (int_oneCell _) ?c1B ?_)
            case c1B => omega
            intro w2 hown2 hgrow2
            have hwz : w.heap.size < wr.heap.size := (hown.lt _ rfl).2
            have hbel2 : Below w.heap.size w w2 := (hbel.alloc (by omega) _).grown hgrow2 (by simp; omega) (fun k h => by cases h; exact Nat.le_refl _)
            have hown3 : w2.ownsRow w.heap.size 5 1 (.slice (some ⟨w.heap.size, 0, none⟩) (o2 ++ [vl]).length L) (o2 ++ [vl]).length ((o2 ++ [vl]).map (Value.int .u8)) := by simpa using hown2
            have HO3 : Hid (o2 ++ [vl] = o ++ List.replicate (N - (q - 1)) (vl)) := infl_step o o2 _ N q h0 hq HO.out
            clear hown hown2 hgrow2 hbel HO
            go_wp2
            go_roundw
            case rel => exact ⟨q - 1, o2 ++ [vl], by omega, by go_num, by simp, hown3, by simp; omega, HO3, hbel2⟩
            case measure => simp [intOf]; omega
          · go_wp2
            go_roundw
            case rel =>
              have hq0 : q = 0 := by omega
              have e := HO.out
              rw [hq0, Nat.sub_zero] at e
              exact ⟨k + 1, o2, by omega, by go_num, rfl, hown, by rw [e]; exact HD3.out, hbel⟩
            case measure => simp [intOf]; omega
      · have hre : Runs.reps (17, e) = (3 + e).toNat := by simp [Runs.reps]
        have hva : Runs.val o (17, e) = 0 := by simp [Runs.val]
        obtain ⟨N, hN⟩ : ∃ N : Nat, Runs.reps (17, e) = N := ⟨_, rfl⟩
        have HD3 : Hid (Runs.Dec (o ++ List.replicate N (0)) (t.drop (k + 1)) ls) := by
          have := HD2.out
          rw [hva, hN] at this
          exact this
        rw [hN] at hsp hre
        have HN : Hid (N = (3 + e).toNat) := hre
        have hfit : ((3 + e) : Int) ≤ (L : Int) - (o.length : Int) := by omega
        clear hN HD2 hre hva
        go_wp2_with fail
        refine (sym_any _ _ _).mono ?_
        rintro e1 w1' ⟨rfl, rfl⟩
        go_wp2_with fail
        refine (ext_any _ _ _).mono ?_
        rintro e1 w1' ⟨rfl, rfl⟩
        go_wp2
        go_loopw [6, 11] (fun ov r wx => ∃ (q : Nat) (o2 : List Int), q ≤ N ∧ r = .int .i64 q ∧ ov = .slice (some ⟨w.heap.size, 0, none⟩) o2.length L ∧ wx.ownsRow w.heap.size 5 1 (.slice (some ⟨w.heap.size, 0, none⟩) o2.length L) o2.length (o2.map (Value.int .u8)) ∧ o2.length + q ≤ L ∧ Hid (o2 = o ++ List.replicate (N - q) (0)) ∧ Below w.heap.size w wx) (fun _ r _ => (intOf r).toNat)
        case atStart => exact ⟨N, o, Nat.le_refl _, by rw [HN.out]; go_num, rfl, (hown.alloc _).alloc _, hsp, by simp [Hid], (hbel.alloc (by omega) _).alloc (by simp; omega) _⟩
        case round =>
          clear hown hbel hsz hgr hc0 hc1
          obtain ⟨q, o2, hq, rfl, rfl, hown, hsp2, HO, hbel⟩ := hrel
          by_cases h0 : 0 < q
          · go_wp2_with (at_builtin; refine wpList_append_fits _ rfl (.tmp 77) (.tmp 79) 22 rfl w.heap.size 5 i0 1 Trym.underlying22 hi hz1 w.heap.size o2.length L _ rfl (hown.alloc _) ⟨wr.heap.size, 0, none⟩ 1 1 [.int .u8 (0)] rfl rfl one_cell_new (int_oneCell _) ?c1C ?_)
            case c1C => omega
            intro w2 hown2 hgrow2
            have hwz : w.heap.size < wr.heap.size := (hown.lt _ rfl).2
            have hbel2 : Below w.heap.size w w2 := (hbel.alloc (by omega) _).grown hgrow2 (by simp; omega) (fun k h => by cases h; exact Nat.le_refl _)
            have hown3 : w2.ownsRow w.heap.size 5 1 (.slice (some ⟨w.heap.size, 0, none⟩) (o2 ++ [0]).length L) (o2 ++ [0]).length ((o2 ++ [0]).map (Value.int .u8)) := by simpa using hown2
            have HO3 : Hid (o2 ++ [0] = o ++ List.replicate (N - (q - 1)) (0)) := infl_step o o2 _ N q h0 hq HO.out
            clear hown hown2 hgrow2 hbel HO
            go_wp2
            go_roundw
            case rel => exact ⟨q - 1, o2 ++ [0], by omega, by go_num, by simp, hown3, by simp; omega, HO3, hbel2⟩
            case measure => simp [intOf]; omega
          · go_wp2
            go_roundw
            case rel =>
              have hq0 : q = 0 := by omega
              have e := HO.out
              rw [hq0, Nat.sub_zero] at e
              exact ⟨k + 1, o2, by omega, by go_num, rfl, hown, by rw [e]; exact HD3.out, hbel⟩
            case measure => simp [intOf]; omega
      · have hre : Runs.reps (18, e) = (11 + e).toNat := by simp [Runs.reps]
        have hva : Runs.val o (18, e) = 0 := by simp [Runs.val]
        obtain ⟨N, hN⟩ : ∃ N : Nat, Runs.reps (18, e) = N := ⟨_, rfl⟩
        have HD3 : Hid (Runs.Dec (o ++ List.replicate N (0)) (t.drop (k + 1)) ls) := by
          have := HD2.out
          rw [hva, hN] at this
          exact this
        rw [hN] at hsp hre
        have HN : Hid (N = (11 + e).toNat) := hre
        have hfit : ((11 + e) : Int) ≤ (L : Int) - (o.length : Int) := by omega
        clear hN HD2 hre hva
        go_wp2_with fail
        refine (sym_any _ _ _).mono ?_
        rintro e1 w1' ⟨rfl, rfl⟩
        go_wp2_with fail
        refine (ext_any _ _ _).mono ?_
        rintro e1 w1' ⟨rfl, rfl⟩
        go_wp2
        go_loopw [6, 11] (fun ov r wx => ∃ (q : Nat) (o2 : List Int), q ≤ N ∧ r = .int .i64 q ∧ ov = .slice (some ⟨w.heap.size, 0, none⟩) o2.length L ∧ wx.ownsRow w.heap.size 5 1 (.slice (some ⟨w.heap.size, 0, none⟩) o2.length L) o2.length (o2.map (Value.int .u8)) ∧ o2.length + q ≤ L ∧ Hid (o2 = o ++ List.replicate (N - q) (0)) ∧ Below w.heap.size w wx) (fun _ r _ => (intOf r).toNat)
        case atStart => exact ⟨N, o, Nat.le_refl _, by rw [HN.out]; go_num, rfl, (hown.alloc _).alloc _, hsp, by simp [Hid], (hbel.alloc (by omega) _).alloc (by simp; omega) _⟩
        case round =>
          clear hown hbel hsz hgr hc0 hc1
          obtain ⟨q, o2, hq, rfl, rfl, hown, hsp2, HO, hbel⟩ := hrel
          by_cases h0 : 0 < q
          · go_wp2_with (at_builtin; refine wpList_append_fits _ rfl (.tmp 77) (.tmp 79) 22 rfl w.heap.size 5 i0 1 Trym.underlying22 hi hz1 w.heap.size o2.length L _ rfl (hown.alloc _) ⟨wr.heap.size, 0, none⟩ 1 1 [.int .u8 (0)] rfl rfl one_cell_new (int_oneCell _) ?c1D ?_)
            case c1D => omega
            intro w2 hown2 hgrow2
            have hwz : w.heap.size < wr.heap.size := (hown.lt _ rfl).2
            have hbel2 : Below w.heap.size w w2 := (hbel.alloc (by omega) _).grown hgrow2 (by simp; omega) (fun k h => by cases h; exact Nat.le_refl _)
            have hown3 : w2.ownsRow w.heap.size 5 1 (.slice (some ⟨w.heap.size, 0, none⟩) (o2 ++ [0]).length L) (o2 ++ [0]).length ((o2 ++ [0]).map (Value.int .u8)) := by simpa using hown2
            have HO3 : Hid (o2 ++ [0] = o ++ List.replicate (N - (q - 1)) (0)) := infl_step o o2 _ N q h0 hq HO.out
            clear hown hown2 hgrow2 hbel HO
            go_wp2
            go_roundw
            case rel => exact ⟨q - 1, o2 ++ [0], by omega, by go_num, by simp, hown3, by simp; omega, HO3, hbel2⟩
            case measure => simp [intOf]; omega
          · go_wp2
            go_roundw
            case rel =>
              have hq0 : q = 0 := by omega
              have e := HO.out
              rw [hq0, Nat.sub_zero] at e
              exact ⟨k + 1, o2, by omega, by go_num, rfl, hown, by rw [e]; exact HD3.out, hbel⟩
            case measure => simp [intOf]; omega
    · have hkn : k = n := by omega
      have e := hdec.out
      rw [List.drop_eq_nil_of_le (by omega)] at e
      have e2 : o = ls := e
      clear hdec e
      subst e2
      subst hl
      go_wp2
      go_ret2
      exact ⟨rfl, hbel, hown⟩

end Go.Proofs.Qxb6602467aMods
