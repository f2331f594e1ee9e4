import Derived.Test.Qxb6602603aModsAppend
namespace Go.Proofs.Qxb6602603aMods
open Go.ChangeShapes Go.WideShapes Go.ChangeAt Go.RowKit
set_option linter.unusedVariables false

theorem Pk.new (w : World) (src dst : ByteArray) (ttl kind : Int) (ab : Option Addr) (lb : Nat) : Pk (w.alloc (pk src dst ttl kind ab lb)) w.heap.size src dst ttl kind ab lb := by
  refine ⟨by simp, by simp, by simp, by simp, by simp, _, heap_alloc_new w _⟩

theorem packet_any (base n0 : Nat) (v0 : Value) (xs0 body : List Int) (src dst : ByteArray) (ttl kind : Int) (ab : Option Addr) (lb : Nat) (w : World)
    (hown : w.ownsRow base 5 1 v0 n0 (xs0.map (Value.int .u8))) (hbase : base ≤ w.heap.size) (hsrc : src.size ≤ 255) (hdst : dst.size ≤ 255) (hn0 : n0 ≤ 1048576) (hlb : lb ≤ 1048576)
    (hbl : body.length = lb) (hbody : ab = none ∧ lb = 0 ∨ ∃ bb, bb < base ∧ ab = some ⟨bb, 0, none⟩ ∧ ∀ j, j < lb → w.cell? ⟨bb, j, none⟩ = some (.int .u8 (body.getD j 0))) :
    Calls Trym.prog 12 #[.string src, .string dst, .int .u8 ttl, .int .u8 kind, .slice ab lb lb, v0] w fun e w' => ∃ v, e = .returned v ∧ w'.ownsRow base 5 1 v (n0 + 1 + src.size + 1 + dst.size + 2 + lb) ((sent xs0 body src dst ttl kind).map (Value.int .u8)) ∧ Below base w w' := by
  have hB : Below base w (w.alloc (pk src dst ttl kind ab lb)) := (Below.refl base w).alloc hbase _
  have H := mkHid (append_any w.heap.size base n0 v0 xs0 body src dst ttl kind ab lb (w.alloc (pk src dst ttl kind ab lb)) (Pk.new w src dst ttl kind ab lb) (hown.alloc _) (by simp; omega) hsrc hdst hn0 hlb hbl
    (by rcases hbody with h | ⟨bb, h1, h2, h3⟩
        · exact .inl h
        · exact .inr ⟨bb, h1, h2, fun j hj => (hB.cell (by exact h1)).trans (h3 j hj)⟩))
  clear hown hbody
  go_enter Trym.func12, Trym.ntmps12
  go_wp2_with fail
  refine H.out.mono ?_
  rintro e w' ⟨v, rfl, ho, hb⟩
  go_wp2
  go_ret
  exact ⟨v, rfl, ho, hB.trans hb⟩

end Go.Proofs.Qxb6602603aMods
