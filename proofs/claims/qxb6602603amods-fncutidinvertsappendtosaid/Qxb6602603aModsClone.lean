/-
  Seat b6602603aM: what both laws share: 'cloneBytes' (function 7): a byte slice copied into a block of the call's own.
-/
import Derived.Test.Qxb6602603aModsRows
import Derived.WalkKit
import Derived.ProofKit
import Derived.OpenShut
import Derived.Below
import Derived.Lib.SliceRun
import Derived.Outline
namespace Go.Proofs.Qxb6602603aMods
open Go.ChangeShapes Go.WideShapes Go.ChangeAt Go.RowKit

theorem Trym.info5 : (Trym.prog.info? 5).map (fun i => (i.zero, i.size, i.bytes)) = some (some (.int .u8 0), 1, 1) := by kernel_rfl

/-- The copy behind k rounds: the first k numbers, then zeros. -/
def cloneAt (zs : List Int) (len k : Nat) : List Value := (zs.take k ++ List.replicate (len - k) 0).map (Value.int .u8)

theorem cloneAt_zero (zs : List Int) (len : Nat) : (madeCells #[Value.int .u8 0] len).toList = cloneAt zs len 0 := by
  rw [toList_madeCells_one]
  simp [cloneAt]

theorem cloneAt_succ (zs : List Int) (len k : Nat) (hk : k < len) (hz : len ≤ zs.length) : (cloneAt zs len k).set k (.int .u8 (zs.getD k 0)) = cloneAt zs len (k + 1) := by
  unfold cloneAt
  rw [show Value.int .u8 (zs.getD k 0) = (Value.int .u8) (zs.getD k 0) from rfl, ← List.map_set]
  congr 1
  obtain ⟨m, hm⟩ : ∃ m, len - k = m + 1 := ⟨len - k - 1, by omega⟩
  have hm' : len - (k + 1) = m := by omega
  rw [hm, hm', List.replicate_succ, List.set_append_right _ _ (by simp; omega)]
  have hl : (zs.take k).length = k := by simp; omega
  rw [hl, Nat.sub_self, List.set_cons_zero, List.take_succ_eq_append_getElem (by omega : k < zs.length), List.append_assoc]
  simp [List.getD, show k < zs.length from by omega]

theorem cloneAt_len (zs : List Int) (len : Nat) : cloneAt zs len len = (zs.take len).map (Value.int .u8) := by
  simp [cloneAt]

set_option maxHeartbeats 400000 in
theorem clone_some (b off len cap : Nat) (zs : List Int) (w : World) (hlen : len ≤ 1048576) (hz : len ≤ zs.length) (hb : b < w.heap.size)
    (hc : ∀ j, j < len → w.cell? ⟨b, off + j, none⟩ = some (.int .u8 (zs.getD j 0))) :
    Calls Trym.prog 7 #[.slice (some ⟨b, off, none⟩) len cap] w fun e w' => e = .returned (.slice (some ⟨w.heap.size, 0, none⟩) len len) ∧ Below w.heap.size w w' ∧
      w'.ownsRow w.heap.size 5 1 (.slice (some ⟨w.heap.size, 0, none⟩) len len) len ((zs.take len).map (Value.int .u8)) := by
  obtain ⟨i0, hi, hz0, hz1, hz2⟩ := info_parts Trym.info5
  have q22 : ∀ (w : World) (a : Option Addr) (n c n' c' : Nat), (binOp .eql 22 (.slice a n c) (.slice none n' c')).run Trym.prog w = .ok (.bool a.isNone) w := fun w a n c n' c' => Lib.run_eql_slice_nil w _ _ a n c n' c' Trym.underlying22
  go_enter Trym.func7, Trym.ntmps7
  go_wp2_with (at_make; refine wpList_make_full _ rfl _ _ 22 rfl w.heap.size 5 i0 (.int .u8 0) 1 Trym.underlying22 hi hz0 hz1 _ _ _ _ len rfl rfl rfl rfl ?b2 ?b3 (Nat.le_refl _) ?_)
  case b2 => rw [hz2]; omega
  case b3 => unfold maxLen; omega
  intro w1 hown hgrow
  rw [cloneAt_zero zs] at hown
  have hbel : Below w.heap.size w w1 := (Below.refl _ _).grown hgrow (Nat.le_refl _) (fun k h => by cases h)
  clear hgrow
  go_wp2
  go_loopw [4] (fun i wr => ∃ k : Nat, k ≤ len ∧ i = .int .i64 k ∧ wr.ownsRow w.heap.size 5 1 (.slice (some ⟨w.heap.size, 0, none⟩) len len) len (cloneAt zs len k) ∧ Below w.heap.size w wr) (fun i _ => len - (intOf i).toNat)
  case atStart => exact ⟨0, Nat.zero_le _, rfl, hown, hbel⟩
  case round =>
    clear hown hbel
    obtain ⟨k, hk, rfl, hown, hbel⟩ := hrel
    by_cases hlt : k < len
    · have hcx : wr.cell? ⟨b, off + k, none⟩ = some (.int .u8 (zs.getD k 0)) := (hbel.cell (by exact hb)).trans (hc k hlt)
      have hfz : wr.frozen? ⟨w.heap.size, k, none⟩ = false := hown.frozenAt k
      have hst := hown.stored k (.int .u8 (zs.getD k 0))
      rw [cloneAt_succ zs len k hlt hz] at hst
      have hst1 := hst.1
      have hbel1 : Below w.heap.size w (wr.setCell ⟨w.heap.size, k, none⟩ (.int .u8 (zs.getD k 0))) := hbel.setCell (Nat.le_refl _) _
      have hold : ∃ v, wr.cell? ⟨w.heap.size, k, none⟩ = some v := ⟨_, (hown.cellAt k (by omega)).trans (List.getElem?_eq_getElem (by rw [hown.1]; omega))⟩
      obtain ⟨vo, hold⟩ := hold
      clear hst hown
      go_wp2
      go_roundw
      case rel => exact ⟨k + 1, by omega, by go_num, by simpa using hst1, by simpa using hbel1⟩
      case measure => simp [intOf]; omega
    · have hkl : k = len := by omega
      subst hkl
      go_wp2
      go_ret
      rw [cloneAt_len] at hown
      exact ⟨rfl, hbel, hown⟩

set_option linter.unusedVariables false
theorem clone_nil (w : World) : Calls Trym.prog 7 #[.slice none 0 0] w fun e w' => e = .returned (.slice none 0 0) ∧ w' = w := by
  have q22 : ∀ (w : World) (a : Option Addr) (n c n' c' : Nat), (binOp .eql 22 (.slice a n c) (.slice none n' c')).run Trym.prog w = .ok (.bool a.isNone) w := fun w a n c n' c' => Lib.run_eql_slice_nil w _ _ a n c n' c' Trym.underlying22
  go_enter Trym.func7, Trym.ntmps7
  go_wp2
  go_ret
  exact ⟨rfl, rfl⟩

theorem cloneBytes_empty (x : Addr) (cap : Nat) (w : World) :
    Calls Trym.prog 7 #[.slice (some x) 0 cap] w fun e w' => e = .returned (.slice (some ⟨w.heap.size, 0, none⟩) 0 0) ∧ Below w.heap.size w w' ∧
      w'.ownsRow w.heap.size 5 1 (.slice (some ⟨w.heap.size, 0, none⟩) 0 0) 0 [] := by
  obtain ⟨i0, hi, hz0, hz1, hz2⟩ := info_parts Trym.info5
  have q22 : ∀ (w : World) (a : Option Addr) (n c n' c' : Nat), (binOp .eql 22 (.slice a n c) (.slice none n' c')).run Trym.prog w = .ok (.bool a.isNone) w := fun w a n c n' c' => Lib.run_eql_slice_nil w _ _ a n c n' c' Trym.underlying22
  go_enter Trym.func7, Trym.ntmps7
  go_wp2_with (at_make; refine wpList_make_full _ rfl _ _ 22 rfl w.heap.size 5 i0 (.int .u8 0) 1 Trym.underlying22 hi hz0 hz1 _ _ _ _ 0 rfl rfl rfl rfl ?b2 ?b3 (Nat.le_refl _) ?_)
  case b2 => omega
  case b3 => unfold maxLen; omega
  intro w1 hown hgrow
  have hbel : Below w.heap.size w w1 := (Below.refl _ _).grown hgrow (Nat.le_refl _) (fun k h => by cases h)
  clear hgrow
  have hown' : w1.ownsRow w.heap.size 5 1 (.slice (some ⟨w.heap.size, 0, none⟩) 0 0) 0 [] := by simpa [madeCells] using hown
  clear hown
  go_wp2
  refine wp_loop_rounds 1 ?_
  rw [rounds_succ]; go_wp2
  go_ret
  exact ⟨rfl, hbel, hown'⟩

/-- The numbers ls lie in the cells behind x. -/
def Bytes (w : World) (a : Option Addr) (len : Nat) (ls : List Int) : Prop :=
  ls.length = len ∧ (a = none → len = 0) ∧ ∀ x, a = some x → ∀ i, i < len → w.cell? (x.add i) = some (.int .u8 (ls.getD i 0))

theorem lt_of_cell {w : World} {b o : Nat} {v : Value} (h : w.cell? ⟨b, o, none⟩ = some v) : b < w.heap.size := by
  rcases Nat.lt_or_ge b w.heap.size with h' | h'
  · exact h'
  · simp [World.cell?, Array.getElem?_eq_none h'] at h

theorem spot_none {w : World} {x : Addr} {v : Value} (h0 : w.cell? (x.add 0) = some v) : x = ⟨x.block, x.off, none⟩ := by
  have : x.spot = none := by simpa [Addr.add] using World.cell?_spot h0
  cases x
  simp_all

theorem cells_own1 {w : World} {base e g n cap : Nat} {ls : List Int} (h : w.ownsRow base e 1 (.slice (some ⟨g, 0, none⟩) n cap) n (ls.map (Value.int .u8))) : ∀ j, j < n → w.cell? ⟨g, j, none⟩ = some (.int .u8 (ls.getD j 0)) := by
  intro j hj
  have hl : ls.length = n := by have := h.1; simpa using this
  rw [h.cellAt j (by omega)]
  simp [List.getD, show j < ls.length from by omega]

theorem cloneB_any (a : Option Addr) (len cap : Nat) (ls : List Int) (w : World) (hcap : a = none → cap = 0) (hlen : len ≤ 1048576) (h : Bytes w a len ls) :
    Calls Trym.prog 7 #[.slice a len cap] w fun e w' => ∃ a', e = .returned (.slice a' len len) ∧ Below w.heap.size w w' ∧
      ((a' = none ∧ len = 0) ∨ (a' = some ⟨w.heap.size, 0, none⟩ ∧ w'.ownsRow w.heap.size 5 1 (.slice (some ⟨w.heap.size, 0, none⟩) len len) len (ls.map (Value.int .u8)))) := by
  obtain ⟨hl, hn, hc⟩ := h
  cases a with
  | none =>
    obtain rfl := hn rfl
    obtain rfl := hcap rfl
    exact (clone_nil w).mono fun e w' ⟨he, hw⟩ => ⟨none, he, by subst hw; exact Below.refl _ _, .inl ⟨rfl, rfl⟩⟩
  | some x =>
    by_cases h0 : len = 0
    · subst h0
      have : ls = [] := List.eq_nil_of_length_eq_zero hl
      subst this
      exact (cloneBytes_empty x cap w).mono fun e w' ⟨he, hb, ho⟩ => ⟨_, he, hb, .inr ⟨rfl, ho⟩⟩
    · obtain ⟨b, off, sp⟩ := x
      have c0 := hc _ rfl 0 (by omega)
      have hs := spot_none c0
      simp only [Addr.mk.injEq, true_and] at hs
      subst hs
      have hb : b < w.heap.size := by rw [add_plain] at c0; exact lt_of_cell c0
      refine (clone_some b off len cap ls w hlen (by omega) hb (fun j hj => by rw [← add_plain]; exact hc _ rfl j hj)).mono fun e w' ⟨he, hb, ho⟩ => ⟨_, he, hb, .inr ⟨rfl, ?_⟩⟩
      rw [List.take_of_length_le (by omega)] at ho
      exact ho

theorem mkHid {p : Prop} (h : p) : Hid p := h

theorem lt_of_cell' {w : World} {p : Addr} {v : Value} (h : w.cell? p = some v) : p.block < w.heap.size := by
  rcases Nat.lt_or_ge p.block w.heap.size with h' | h'
  · exact h'
  · simp [World.cell?, Array.getElem?_eq_none h'] at h

theorem Bytes.below {w w1 : World} {a : Option Addr} {len : Nat} {ls : List Int} (h : Bytes w a len ls) (hb : Below w.heap.size w w1) : Bytes w1 a len ls :=
  ⟨h.1, h.2.1, fun x hx i hi => (hb.cell (lt_of_cell' (h.2.2 x hx i hi))).trans (h.2.2 x hx i hi)⟩

theorem ret_bool {a b : Bool} (h : a = b) : Ending.returned (.bool a) = .returned (.bool b) := by rw [h]

end Go.Proofs.Qxb6602603aMods
