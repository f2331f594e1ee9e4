import Derived.Test.Qxb6602603aModsValid
import Derived.Lib.AppendStr
import Derived.Laws.AppendOwnNone
import Derived.RegionTactic
import Derived.Deep.RegionLaw
namespace Go.Proofs.Qxb6602603aMods
open Go.ChangeShapes Go.WideShapes Go.ChangeAt Go.RowKit
set_option linter.unusedVariables false

/-- append onto what the call owns, as one step of a region that draws its order. -/
theorem step_append_own {P : Program} {ops : Array Oper} {o : Oper} {a : Act} {w : World} {K : Act → World → Prop} {Q : Exit → Act → World → Prop} {E : Prop}
    (hgd : o.guard = none) (s x : Operand) (t : TypeId) (ho : o.op = .call { callee := .builtin .append, args := #[s, x], argTypes := #[t, t] })
    (base : Nat) (e : TypeId) (i : TypeInfo) (z : Value) (size bytes : Nat) (ht : P.underlying t = some (.slice e)) (hi : P.info? e = some i) (hz : i.zero = some z)
    (hsize : i.size = size) (hby : i.bytes = bytes) (hzs : z.cells.size = size) (hsz : 0 < size)
    (v : Value) (n : Nat) (xs : List Value) (hs : a.eval s = v) (hown : w.ownsRow base e size v n xs)
    (ad : Addr) (m c : Nat) (news : List Value) (hx : a.eval x = .slice (some ad) m c) (hl : news.length = m * size) (hnews : ∀ j u, news[j]? = some u → w.cell? (ad.add j) = some u) (h1 : ∀ u ∈ news, u.oneCell' = true)
    (h63 : n + m ≤ maxLen) (hbytes : (n + m) * bytes ≤ 140737488355328) (hbase : base ≤ w.heap.size)
    (h : ∀ v' w', w'.ownsRow base e size v' (n + m) (xs ++ news) → w.grownBy w' v.ownBlock → K (a.put o.dst v') w') :
    if Region.wanted o (yielded ops a.tmps) = true then Oper.wp P o a w K Q else E := by
  have hw : Region.wanted o (yielded ops a.tmps) = true := by simp [Region.wanted, hgd]
  rw [if_pos hw]
  exact wp_append_own w s x t ho base e i z size bytes ht hi hz hsize hby hzs hsz v n xs hs hown ad m c news hx hl hnews h1 h63 hbytes hbase fun v' w' a b _ => h v' w' a b

theorem one_cell_new {w : World} {a : Value} {t : TypeId} : ∀ j u, [a][j]? = some u → (w.alloc (.cells #[a] t)).cell? ((⟨w.heap.size, 0, none⟩ : Addr).add j) = some u := by
  intro j u hj
  match j, hj with
  | 0, hj => simp at hj; subst hj; simp [Addr.add]
theorem two_cell_new {w : World} {a b : Value} {t : TypeId} : ∀ j u, [a, b][j]? = some u → (w.alloc (.cells #[a, b] t)).cell? ((⟨w.heap.size, 0, none⟩ : Addr).add j) = some u := by
  intro j u hj
  match j, hj with
  | 0, hj => simp at hj; subst hj; simp [Addr.add]
  | 1, hj => simp at hj; subst hj; simp [Addr.add]
theorem u8_oneCell (xs : List Int) : ∀ u ∈ xs.map (Value.int .u8), u.oneCell' = true := ints_oneCell _ _

/-- The packet's block. -/
abbrev pk (src dst : ByteArray) (ttl kind : Int) (ab : Option Addr) (lb : Nat) : Obj := .cells #[.string src, .string dst, .int .u8 ttl, .int .u8 kind, .slice ab lb lb] 36
structure Pk (w : World) (B : Nat) (src dst : ByteArray) (ttl kind : Int) (ab : Option Addr) (lb : Nat) : Prop where
  c0 : w.cell? ⟨B, 0, none⟩ = some (.string src)
  c1 : w.cell? ⟨B, 1, none⟩ = some (.string dst)
  c2 : w.cell? ⟨B, 2, none⟩ = some (.int .u8 ttl)
  c3 : w.cell? ⟨B, 3, none⟩ = some (.int .u8 kind)
  c4 : w.cell? ⟨B, 4, none⟩ = some (.slice ab lb lb)
  ty : ∃ cs, w.heap[B]? = some (.cells cs 36 (0, 0))

/-- What was appended to is another block. -/
theorem Pk.keep {w w1 : World} {B base n : Nat} {v : Value} {xs : List Value} {src dst : ByteArray} {ttl kind : Int} {ab : Option Addr} {lb : Nat} (h : Pk w B src dst ttl kind ab lb)
    (hown : w.ownsRow base 5 1 v n xs) (hg : w.grownBy w1 v.ownBlock) : Pk w1 B src dst ttl kind ab lb := by
  obtain ⟨cs, hty⟩ := h.ty
  have hlt : B < w.heap.size := lt_of_block hty
  have hne : some B ≠ v.ownBlock := by
    intro he
    rcases hown.2 with ⟨hv, _⟩ | ⟨g, cap, cur, hv, _, hh, _⟩
    · rw [hv] at he; cases he
    · rw [hv] at he
      simp [Value.ownBlock] at he
      subst he
      rw [hty] at hh
      simp at hh
  have hb := hg.block B hlt hne
  exact ⟨hg.cell h.c0 hne, hg.cell h.c1 hne, hg.cell h.c2 hne, hg.cell h.c3 hne, hg.cell h.c4 hne, cs, hb.trans hty⟩

theorem Pk.alloc {w : World} {B : Nat} {src dst : ByteArray} {ttl kind : Int} {ab : Option Addr} {lb : Nat} (h : Pk w B src dst ttl kind ab lb) (o : Obj) : Pk (w.alloc o) B src dst ttl kind ab lb := by
  obtain ⟨cs, hty⟩ := h.ty
  have hlt : B < w.heap.size := lt_of_block hty
  have hb : (w.alloc o).heap[B]? = w.heap[B]? := Below.heap_alloc w o B hlt
  have hc : ∀ j, (w.alloc o).cell? ⟨B, j, none⟩ = w.cell? ⟨B, j, none⟩ := fun j => World.cell?_of_block (w := w) hb
  exact ⟨(hc 0).trans h.c0, (hc 1).trans h.c1, (hc 2).trans h.c2, (hc 3).trans h.c3, (hc 4).trans h.c4, cs, hb.trans hty⟩

theorem strCells_ints (s : ByteArray) : Lib.strCells s = (ints s).map (Value.int .u8) := by
  simp [Lib.strCells, ints]

theorem app_step {w wa w1 : World} {B base n m : Nat} {r v' : Value} {l news : List Int} {src dst : ByteArray} {ttl kind : Int} {ab : Option Addr} {lb : Nat} (hbel : Below base w wa) (hB : base ≤ wa.heap.size)
    (hown : wa.ownsRow base 5 1 r n (l.map (Value.int .u8))) (hpk : Pk wa B src dst ttl kind ab lb) (hg : wa.grownBy w1 r.ownBlock)
    (hown' : w1.ownsRow base 5 1 v' (n + m) (l.map (Value.int .u8) ++ news.map (Value.int .u8))) :
    ∃ L, Hid (L = l ++ news) ∧ w1.ownsRow base 5 1 v' (n + m) (L.map (Value.int .u8)) ∧ Below base w w1 ∧ base ≤ w1.heap.size ∧ Pk w1 B src dst ttl kind ab lb := by
  refine ⟨_, rfl, by rw [List.map_append]; exact hown', hbel.grown hg hB (fun k h => (hown.lt k h).1), ?_, hpk.keep hown hg⟩
  have := hg.size
  omega

theorem Pk.drew {w : World} {B : Nat} {src dst : ByteArray} {ttl kind : Int} {ab : Option Addr} {lb : Nat} (h : Pk w B src dst ttl kind ab lb) : Pk w.drew B src dst ttl kind ab lb :=
  ⟨h.c0, h.c1, h.c2, h.c3, h.c4, h.ty⟩

/-- What is sent. -/
def sent (xs0 body : List Int) (src dst : ByteArray) (ttl kind : Int) : List Int := xs0 ++ [(src.size : Int)] ++ ints src ++ [(dst.size : Int)] ++ ints dst ++ [ttl, kind] ++ body

set_option maxRecDepth 100000 in
set_option maxHeartbeats 4000000 in
theorem append_any (B base n0 : Nat) (v0 : Value) (xs0 body : List Int) (src dst : ByteArray) (ttl kind : Int) (ab : Option Addr) (lb : Nat) (w : World)
    (hpk : Pk w B src dst ttl kind ab lb) (hown : w.ownsRow base 5 1 v0 n0 (xs0.map (Value.int .u8))) (hbase : base ≤ w.heap.size) (hsrc : src.size ≤ 255) (hdst : dst.size ≤ 255) (hn0 : n0 ≤ 1048576) (hlb : lb ≤ 1048576)
    (hbl : body.length = lb) (hbody : ab = none ∧ lb = 0 ∨ ∃ bb, bb < base ∧ ab = some ⟨bb, 0, none⟩ ∧ ∀ j, j < lb → w.cell? ⟨bb, j, none⟩ = some (.int .u8 (body.getD j 0))) :
    Calls Trym.prog 17 #[.pointer (some ⟨B, 0, none⟩), v0] w fun e w' => ∃ v, e = .returned v ∧ w'.ownsRow base 5 1 v (n0 + 1 + src.size + 1 + dst.size + 2 + lb) ((sent xs0 body src dst ttl kind).map (Value.int .u8)) ∧ Below base w w' := by
  obtain ⟨i0, hi, hz0, hz1, hz2⟩ := info_parts Trym.info5
  have HBODY := mkHid hbody
  have HPK := mkHid hpk
  obtain ⟨c0, c1, c2, c3, c4, _⟩ := hpk
  clear hbody
  go_enter Trym.func17, Trym.ntmps17
  go_wp2_with (at_builtin; refine wpList_append_own _ rfl (.tmp 5) (.tmp 12) 22 rfl base 5 i0 (.int .u8 0) 1 1 Trym.underlying22 hi hz0 hz1 hz2 rfl (by decide) _ _ _ rfl (hown.alloc _) ⟨w.heap.size, 0, none⟩ 1 1 [.int .u8 (src.size : Int)] rfl rfl one_cell_new (u8_oneCell [(src.size : Int)]) ?c3 ?c4 ?c5 ?_)
  case c3 => unfold maxLen; omega
  case c4 => omega
  case c5 => simp; omega
  intro v1 w1 hown1 hgrow1 _
  obtain ⟨L1, HL1, ho1, hb1, hs1, hp1⟩ := app_step (news := [(src.size : Int)]) ((Below.refl base w).alloc hbase _) (by simp; omega) (hown.alloc _) (HPK.out.alloc _) hgrow1 hown1
  clear hown hown1 hgrow1 c0 c1 c2 c3 c4
  have HP1 := mkHid hp1
  obtain ⟨c0, c1, c2, c3, c4, _⟩ := hp1
  go_wp2_with (at_builtin; refine Lib.wpList_append_own_string _ rfl (.tmp 14) (.tmp 18) 22 9 rfl base 5 i0 Trym.underlying22 Trym.underlying9 hi hz0 hz1 hz2 _ _ _ rfl ho1 src rfl ?d3 ?d4 ?d5 ?_)
  case d3 => unfold maxLen; omega
  case d4 => omega
  case d5 => omega
  intro v2 w2 hown2 hgrow2 _
  rw [strCells_ints] at hown2
  obtain ⟨L2, HL2, ho2, hb2, hs2, hp2⟩ := app_step hb1 hs1 ho1 HP1.out hgrow2 hown2
  clear ho1 hown2 hgrow2 c0 c1 c2 c3 c4
  have HP2 := mkHid hp2
  obtain ⟨c0, c1, c2, c3, c4, _⟩ := hp2
  go_wp2_with (at_builtin; refine wpList_append_own _ rfl (.tmp 20) (.tmp 27) 22 rfl base 5 i0 (.int .u8 0) 1 1 Trym.underlying22 hi hz0 hz1 hz2 rfl (by decide) _ _ _ rfl (ho2.alloc _) ⟨w2.heap.size, 0, none⟩ 1 1 [.int .u8 (dst.size : Int)] rfl rfl one_cell_new (u8_oneCell [(dst.size : Int)]) ?e3 ?e4 ?e5 ?_)
  case e3 => unfold maxLen; omega
  case e4 => omega
  case e5 => simp; omega
  intro v3 w3 hown3 hgrow3 _
  obtain ⟨L3, HL3, ho3, hb3, hs3, hp3⟩ := app_step (news := [(dst.size : Int)]) (hb2.alloc hs2 _) (by simp; omega) (ho2.alloc _) (HP2.out.alloc _) hgrow3 hown3
  clear ho2 hown3 hgrow3 c0 c1 c2 c3 c4
  have HP3 := mkHid hp3
  obtain ⟨c0, c1, c2, c3, c4, _⟩ := hp3
  go_wp2_with (at_builtin; refine Lib.wpList_append_own_string _ rfl (.tmp 29) (.tmp 33) 22 9 rfl base 5 i0 Trym.underlying22 Trym.underlying9 hi hz0 hz1 hz2 _ _ _ rfl ho3 dst rfl ?f3 ?f4 ?f5 ?_)
  case f3 => unfold maxLen; omega
  case f4 => omega
  case f5 => omega
  intro v4 w4 hown4 hgrow4 _
  rw [strCells_ints] at hown4
  obtain ⟨L4, HL4, ho4, hb4, hs4, hp4⟩ := app_step hb3 hs3 ho3 HP3.out hgrow4 hown4
  clear ho3 hown4 hgrow4 c0 c1 c2 c3 c4
  have HP4 := mkHid hp4
  obtain ⟨c0, c1, c2, c3, c4, _⟩ := hp4
  go_wp2
  go_region_law (refine step_append_own rfl (.tmp 35) (.tmp 44) 22 rfl base 5 i0 (.int .u8 0) 1 1 Trym.underlying22 hi hz0 hz1 hz2 rfl (by decide) v4 (n0 + 1 + src.size + 1 + dst.size) (L4.map (Value.int .u8)) rfl (by first | exact (ho4.alloc _).drew | exact ho4.drew.alloc _) ⟨w4.heap.size, 0, none⟩ 2 2 [.int .u8 ttl, .int .u8 kind] rfl rfl (by exact two_cell_new) (u8_oneCell [ttl, kind]) (by unfold maxLen; omega) (by omega) (by simp; omega) ?_; intro v5 w5 hown5 hgrow5)
  all_goals
    obtain ⟨L5, HL5, ho5, hb5, hs5, hp5⟩ := app_step (news := [ttl, kind]) ((hb4.alloc hs4 _).drew) (by simp; omega) ((ho4.alloc _).drew) ((HP4.out.alloc _).drew) hgrow5 hown5
    clear ho4 hown5 hgrow5 c0 c1 c2 c3 c4
    obtain ⟨c0, c1, c2, c3, c4, _⟩ := hp5
    rcases HBODY.out with ⟨rfl, rfl⟩ | ⟨bb, hbb, rfl, hcb⟩
    · obtain rfl : body = [] := List.eq_nil_of_length_eq_zero hbl
      have HF : Hid ((sent xs0 [] src dst ttl kind).map (Value.int .u8) = L5.map (Value.int .u8)) := by
        rw [Hid, HL5.out, HL4.out, HL3.out, HL2.out, HL1.out, sent, List.append_nil]
      go_wp2_with (at_builtin; refine wpList_append_own_none rfl (.tmp 46) (.tmp 50) 22 rfl base 5 i0 1 Trym.underlying22 hi _ _ _ rfl ho5 rfl ?_)
      go_wp2
      go_ret
      exact ⟨v5, rfl, by rw [HF.out]; exact ho5, hb5⟩
    · have HF : Hid ((sent xs0 body src dst ttl kind).map (Value.int .u8) = L5.map (Value.int .u8) ++ body.map (Value.int .u8)) := by
        rw [Hid, ← List.map_append, HL5.out, HL4.out, HL3.out, HL2.out, HL1.out, sent]
      have HCB : Hid (∀ j u, (body.map (Value.int .u8))[j]? = some u → w5.cell? ((⟨bb, 0, none⟩ : Addr).add j) = some u) := by
        intro j u hu
        have hj : j < body.length := by
          have := (List.getElem?_eq_some_iff.1 hu).1
          simpa using this
        rw [Addr.add_lit, Nat.zero_add]
        refine (hb5.cell (by exact hbb)).trans ?_
        rw [hcb j (by omega), ← hu]
        simp [List.getD, hj]
      have HLN : Hid ((body.map (Value.int .u8)).length = lb * 1) := by rw [Hid, List.length_map, hbl, Nat.mul_one]
      clear hcb
      go_wp2_with (at_builtin; refine wpList_append_own _ rfl (.tmp 46) (.tmp 50) 22 rfl base 5 i0 (.int .u8 0) 1 1 Trym.underlying22 hi hz0 hz1 hz2 rfl (by decide) _ _ _ rfl ho5 ⟨bb, 0, none⟩ lb lb (body.map (Value.int .u8)) rfl HLN.out HCB.out (u8_oneCell body) (by unfold maxLen; omega) (by omega) hs5 ?_; intro v6 w6 hown6 hgrow6 _)
      have hb6 : Below base w w6 := hb5.grown hgrow6 hs5 (fun k h => (ho5.lt k h).1)
      clear ho5 hgrow6
      go_wp2
      go_ret
      exact ⟨v6, rfl, by rw [HF.out]; exact hown6, hb6⟩

end Go.Proofs.Qxb6602603aMods
