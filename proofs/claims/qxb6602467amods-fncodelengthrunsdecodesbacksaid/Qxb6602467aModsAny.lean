import Derived.Test.Qxb6602467aModsSame
import Derived.Test.Qxb6602467aModsCode
import Derived.Test.Qxb6602467aModsInflate
namespace Go.Proofs.Qxb6602467aMods
open Go.ChangeShapes Go.WideShapes Go.ChangeAt Go.RowKit
set_option linter.unusedVariables false

/-- The numbers ls lie in the cells behind x. -/
def Bytes (w : World) (a : Option Addr) (len : Nat) (ls : List Int) : Prop :=
  ls.length = len ∧ (a = none → len = 0) ∧ ∀ x, a = some x → ∀ i, i < len → w.cell? (x.add i) = some (.int .u8 (ls.getD i 0))
def Pairs (w : World) (a : Option Addr) (len : Nat) (rs : List (Int × Int)) : Prop :=
  rs.length = len ∧ (a = none → len = 0) ∧ ∀ x, a = some x → ∀ i, i < len → w.cell? (x.add (i * 2)) = some (.int .u8 (rs.getD i (0, 0)).1) ∧ w.cell? (x.add (i * 2 + 1)) = some (.int .u8 (rs.getD i (0, 0)).2)

theorem lt_of_cell {w : World} {b o : Nat} {v : Value} (h : w.cell? ⟨b, o, none⟩ = some v) : b < w.heap.size := by
  rcases Nat.lt_or_ge b w.heap.size with h' | h'
  · exact h'
  · simp [World.cell?, Array.getElem?_eq_none h'] at h

theorem spot_none {w : World} {x : Addr} {v : Value} (h0 : w.cell? (x.add 0) = some v) : x = ⟨x.block, x.off, none⟩ := by
  have : x.spot = none := by simpa [Addr.add] using World.cell?_spot h0
  cases x
  simp_all

theorem cells_own1 {w : World} {base e g n cap : Nat} {ls : List Int} (h : w.ownsRow base e 1 (.slice (some ⟨g, 0, none⟩) n cap) n (ls.map (Value.int .u8))) : ∀ j, j < n → w.cell? ⟨g, j, none⟩ = some (.int .u8 (ls.getD j 0)) := by
  intro j hj
  have hl : ls.length = n := by have := h.1; simpa using this
  rw [h.cellAt j (by omega)]
  simp [List.getD, show j < ls.length from by omega]

theorem cells_own2 {w : World} {base e g n cap : Nat} {rs : List (Int × Int)} (h : w.ownsRow base e 2 (.slice (some ⟨g, 0, none⟩) n cap) n (flat rs)) : ∀ j, j < n → w.cell? ⟨g, j * 2, none⟩ = some (.int .u8 (rs.getD j (0, 0)).1) ∧ w.cell? ⟨g, j * 2 + 1, none⟩ = some (.int .u8 (rs.getD j (0, 0)).2) := by
  intro j hj
  have hl : rs.length = n := by have := h.1; rw [flat_length] at this; omega
  exact ⟨(h.cellAt (j * 2) (by omega)).trans (flat_fst rs j (by omega)), (h.cellAt (j * 2 + 1) (by omega)).trans (flat_snd rs j (by omega))⟩

theorem cloneB_any (a : Option Addr) (len cap : Nat) (ls : List Int) (w : World) (hcap : a = none → cap = 0) (hlen : len ≤ 1048576) (h : Bytes w a len ls) :
    Calls Trym.prog 8 #[.slice a len cap] w fun e w' => ∃ a', e = .returned (.slice a' len len) ∧ Below w.heap.size w w' ∧
      ((a' = none ∧ len = 0) ∨ (a' = some ⟨w.heap.size, 0, none⟩ ∧ w'.ownsRow w.heap.size 5 1 (.slice (some ⟨w.heap.size, 0, none⟩) len len) len (ls.map (Value.int .u8)))) := by
  obtain ⟨hl, hn, hc⟩ := h
  cases a with
  | none =>
    obtain rfl := hn rfl
    obtain rfl := hcap rfl
    exact (clone_nil w).mono fun e w' ⟨he, hw⟩ => ⟨none, he, by subst hw; exact Below.refl _ _, .inl ⟨rfl, rfl⟩⟩
  | some x =>
    by_cases h0 : len = 0
    · subst h0
      have : ls = [] := List.eq_nil_of_length_eq_zero hl
      subst this
      exact (cloneBytes_empty x cap w).mono fun e w' ⟨he, hb, ho⟩ => ⟨_, he, hb, .inr ⟨rfl, ho⟩⟩
    · obtain ⟨b, off, sp⟩ := x
      have c0 := hc _ rfl 0 (by omega)
      have hs := spot_none c0
      simp only [Addr.mk.injEq, true_and] at hs
      subst hs
      have hb : b < w.heap.size := by rw [add_plain] at c0; exact lt_of_cell c0
      refine (clone_some b off len cap ls w hlen (by omega) hb (fun j hj => by rw [← add_plain]; exact hc _ rfl j hj)).mono fun e w' ⟨he, hb, ho⟩ => ⟨_, he, hb, .inr ⟨rfl, ?_⟩⟩
      rw [List.take_of_length_le (by omega)] at ho
      exact ho

theorem cloneR_any (a : Option Addr) (len cap : Nat) (rs : List (Int × Int)) (w : World) (hcap : a = none → cap = 0) (hlen : len ≤ 1048576) (h : Pairs w a len rs) :
    Calls Trym.prog 13 #[.slice a len cap] w fun e w' => ∃ a', e = .returned (.slice a' len len) ∧ Below w.heap.size w w' ∧
      ((a' = none ∧ len = 0) ∨ (a' = some ⟨w.heap.size, 0, none⟩ ∧ w'.ownsRow w.heap.size 38 2 (.slice (some ⟨w.heap.size, 0, none⟩) len len) len (flat rs))) := by
  obtain ⟨hl, hn, hc⟩ := h
  cases a with
  | none =>
    obtain rfl := hn rfl
    obtain rfl := hcap rfl
    exact (cloneRuns_nil w).mono fun e w' ⟨he, hw⟩ => ⟨none, he, by subst hw; exact Below.refl _ _, .inl ⟨rfl, rfl⟩⟩
  | some x =>
    by_cases h0 : len = 0
    · subst h0
      have : rs = [] := List.eq_nil_of_length_eq_zero hl
      subst this
      exact (cloneRuns_empty x cap w).mono fun e w' ⟨he, hb, ho⟩ => ⟨_, he, hb, .inr ⟨rfl, ho⟩⟩
    · obtain ⟨b, off, sp⟩ := x
      have c0 := (hc _ rfl 0 (by omega)).1
      have hs := spot_none c0
      simp only [Addr.mk.injEq, true_and] at hs
      subst hs
      have hb : b < w.heap.size := by rw [add_plain] at c0; exact lt_of_cell c0
      refine (cloneRuns_some b off len cap rs w hlen (by omega) hb (fun j hj => ?_)).mono fun e w' ⟨he, hb, ho⟩ => ⟨_, he, hb, .inr ⟨rfl, ?_⟩⟩
      · have := hc _ rfl j hj
        rw [add_plain, add_plain, ← Nat.add_assoc] at this
        exact this
      · rw [List.take_of_length_le (by omega)] at ho
        exact ho

theorem toProj_any (a : Option Addr) (len : Nat) (rs : List (Int × Int)) (w : World) (hlen : len ≤ 1048576) (hl : rs.length = len)
    (h : (a = none ∧ len = 0) ∨ ∃ b, b < w.heap.size ∧ a = some ⟨b, 0, none⟩ ∧ ∀ j, j < len → w.cell? ⟨b, j * 2, none⟩ = some (.int .u8 (rs.getD j (0, 0)).1) ∧ w.cell? ⟨b, j * 2 + 1, none⟩ = some (.int .u8 (rs.getD j (0, 0)).2)) :
    Calls Trym.prog 15 #[.slice a len len] w fun e w' => ∃ v, e = .returned v ∧ Below w.heap.size w w' ∧ w'.ownsRow w.heap.size 36 2 v len (flat rs) := by
  rcases h with ⟨rfl, rfl⟩ | ⟨b, hb, rfl, hc⟩
  · have : rs = [] := List.eq_nil_of_length_eq_zero hl
    subst this
    exact (toProj_nil w).mono fun e w' ⟨he, hw⟩ => ⟨_, he, by subst hw; exact Below.refl _ _, World.ownsRow_nil _ _ _ _⟩
  · refine (toProj_some b len len rs w hlen (by omega) hb hc).mono fun e w' ⟨he, hb, ho⟩ => ⟨_, he, hb, ?_⟩
    rw [List.take_of_length_le (by omega)] at ho
    exact ho

theorem clr_empty (v0 : Value) (a : Option Addr) (c : Nat) (w : World) : Calls Trym.prog 20 #[v0, .slice a 0 c] w fun e w' => e = .returned v0 ∧ w' = w := by
  go_enter Trym.func20, Trym.ntmps20
  go_wp2
  refine wp_loop_rounds 1 ?_
  rw [rounds_succ]; go_wp2
  go_ret
  exact ⟨rfl, rfl⟩

theorem clr_any (a : Option Addr) (len base n0 : Nat) (v0 : Value) (R : List (Int × Int)) (ls : List Int) (w : World) (hlen : len ≤ 524288) (hn0 : n0 ≤ 262144) (hR : R.length = n0) (hl : ls.length = len)
    (hbase : base ≤ w.heap.size) (hown : w.ownsRow base 36 2 v0 n0 (flat R)) (hv : ∀ j, j < len → 0 ≤ ls.getD j 0 ∧ ls.getD j 0 ≤ 15)
    (h : len = 0 ∨ ∃ b, b < base ∧ a = some ⟨b, 0, none⟩ ∧ ∀ j, j < len → w.cell? ⟨b, j, none⟩ = some (.int .u8 (ls.getD j 0))) :
    Calls Trym.prog 20 #[v0, .slice a len len] w fun e w' => ∃ v t, e = .returned v ∧ w'.ownsRow base 36 2 v (n0 + t.length) (flat (R ++ t)) ∧ Runs.Enc ls len t ∧ Below base w w' := by
  rcases h with rfl | ⟨b, hb, rfl, hc⟩
  · refine (clr_empty v0 a 0 w).mono fun e w' ⟨he, hw⟩ => ⟨v0, [], he, ?_, Runs.Enc.zero ls, ?_⟩
    · subst hw; simpa using hown
    · subst hw; exact Below.refl _ _
  · exact clr_some b len len base n0 v0 R ls w hlen hn0 hR hl hb hbase hown hc hv

theorem clr14_any (a : Option Addr) (len base n0 : Nat) (v0 : Value) (R : List (Int × Int)) (ls : List Int) (w : World) (hlen : len ≤ 524288) (hn0 : n0 ≤ 262144) (hR : R.length = n0) (hl : ls.length = len)
    (hbase : base ≤ w.heap.size) (hown : w.ownsRow base 36 2 v0 n0 (flat R)) (hv : ∀ j, j < len → 0 ≤ ls.getD j 0 ∧ ls.getD j 0 ≤ 15)
    (h : len = 0 ∨ ∃ b, b < base ∧ a = some ⟨b, 0, none⟩ ∧ ∀ j, j < len → w.cell? ⟨b, j, none⟩ = some (.int .u8 (ls.getD j 0))) :
    Calls Trym.prog 14 #[v0, .slice a len len] w fun e w' => ∃ v t, e = .returned v ∧ w'.ownsRow base 36 2 v (n0 + t.length) (flat (R ++ t)) ∧ Runs.Enc ls len t ∧ Below base w w' := by
  have H := clr_any a len base n0 v0 R ls w hlen hn0 hR hl hbase hown hv h
  clear h hv hown hl
  go_enter Trym.func14, Trym.ntmps14
  go_wp2_with fail
  refine H.mono ?_
  rintro e w' ⟨v, t, rfl, ho, he, hb⟩
  go_wp2
  go_ret
  exact ⟨v, t, rfl, ho, he, hb⟩

theorem same_any (ag ab : Option Addr) (len cg cb : Nat) (rs : List (Int × Int)) (w : World) (hlen : len ≤ 1048576) (hz : len ≤ rs.length)
    (h : len = 0 ∨ ∃ g b, ag = some ⟨g, 0, none⟩ ∧ ab = some ⟨b, 0, none⟩ ∧ g < w.heap.size ∧ b < w.heap.size ∧
      (∀ j, j < len → w.cell? ⟨g, j * 2, none⟩ = some (.int .u8 (rs.getD j (0, 0)).1) ∧ w.cell? ⟨g, j * 2 + 1, none⟩ = some (.int .u8 (rs.getD j (0, 0)).2)) ∧
      (∀ j, j < len → w.cell? ⟨b, j * 2, none⟩ = some (.int .u8 (rs.getD j (0, 0)).1) ∧ w.cell? ⟨b, j * 2 + 1, none⟩ = some (.int .u8 (rs.getD j (0, 0)).2))) :
    Calls Trym.prog 16 #[.slice ag len cg, .slice ab len cb] w fun e w' => e = .returned (.bool true) ∧ Below w.heap.size w w' := by
  rcases h with rfl | ⟨g, b, rfl, rfl, hg, hb, hcg, hcb⟩
  · exact (same_empty ag ab cg cb w).mono fun e w' ⟨he, hw⟩ => ⟨he, by subst hw; exact Below.refl _ _⟩
  · exact same_some g b len cg cb rs w hlen hz hg hb hcg hcb

end Go.Proofs.Qxb6602467aMods
