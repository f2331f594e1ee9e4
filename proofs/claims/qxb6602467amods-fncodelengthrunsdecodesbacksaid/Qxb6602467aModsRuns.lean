/-
  Seat b6602467aM: the plain mathematics of the code-length symbols: what a list of (symbol, extra) pairs decodes to; each way in which codeLengthRuns writes a symbol keeps it so. No Go here.
-/
namespace Go.Proofs.Qxb6602467aMods.Runs

/-- How often a symbol repeats. -/
def reps (p : Int × Int) : Nat := if p.1 ≤ 15 then 1 else if p.1 = 18 then (11 + p.2).toNat else (3 + p.2).toNat

/-- What a symbol repeats, behind the output o. -/
def val (o : List Int) (p : Int × Int) : Int := if p.1 ≤ 15 then p.1 else if p.1 = 16 then o.getD (o.length - 1) 0 else 0

/-- The symbol is legal behind the output o. -/
def Ok (o : List Int) (p : Int × Int) : Prop :=
  0 ≤ p.1 ∧ 0 ≤ p.2 ∧ ((p.1 ≤ 15 ∧ p.2 = 0) ∨ (p.1 = 16 ∧ p.2 ≤ 3 ∧ 0 < o.length) ∨ (p.1 = 17 ∧ p.2 ≤ 7) ∨ (p.1 = 18 ∧ p.2 ≤ 127))

/-- Behind the output o the symbols ps decode to r. -/
def Dec : List Int → List (Int × Int) → List Int → Prop
  | o, [], r => o = r
  | o, p :: ps, r => Ok o p ∧ Dec (o ++ List.replicate (reps p) (val o p)) ps r

theorem Dec.snoc {o : List Int} {ps : List (Int × Int)} {r : List Int} {p : Int × Int} (h : Dec o ps r) (hp : Ok r p) : Dec o (ps ++ [p]) (r ++ List.replicate (reps p) (val r p)) := by
  induction ps generalizing o with
  | nil => simp only [Dec] at h; subst h; exact ⟨hp, rfl⟩
  | cons q qs ih => exact ⟨h.1, ih h.2⟩

theorem Dec.len {o : List Int} {ps : List (Int × Int)} {r : List Int} (h : Dec o ps r) : o.length ≤ r.length := by
  induction ps generalizing o with
  | nil => simp only [Dec] at h; subst h; exact Nat.le_refl _
  | cons q qs ih => have := ih h.2; simp at this; omega

/-- A stretch of equal numbers. -/
theorem take_run (ls : List Int) (j m : Nat) (v : Int) (hj : j + m ≤ ls.length) (hv : ∀ q, j ≤ q → q < j + m → ls.getD q 0 = v) : ls.take (j + m) = ls.take j ++ List.replicate m v := by
  induction m with
  | zero => simp
  | succ m ih =>
    have hi := ih (by omega) (fun q a b => hv q a (by omega))
    have hq := hv (j + m) (by omega) (by omega)
    have hlt : j + m < ls.length := by omega
    have e : ls[j + m] = v := by simpa [List.getD, hlt] using hq
    rw [← Nat.add_assoc, List.take_succ_eq_append_getElem hlt, hi, e, List.append_assoc, ← List.replicate_succ']

/-- t writes the first j of ls, in no more symbols than that. -/
def Enc (ls : List Int) (j : Nat) (t : List (Int × Int)) : Prop := Dec [] t (ls.take j) ∧ t.length ≤ j

theorem Enc.zero (ls : List Int) : Enc ls 0 [] := ⟨by simp [Dec], Nat.le_refl _⟩

theorem Enc.lit {ls : List Int} {j : Nat} {t : List (Int × Int)} (h : Enc ls j t) (v : Int) (hj : j < ls.length) (hv : ls.getD j 0 = v) (h0 : 0 ≤ v) (h1 : v ≤ 15) : Enc ls (j + 1) (t ++ [(v, 0)]) := by
  refine ⟨?_, by have := h.2; simp; omega⟩
  have hr : reps (v, 0) = 1 := by simp [reps, h1]
  have hw : val (ls.take j) (v, 0) = v := by simp [val, h1]
  have := h.1.snoc (p := (v, 0)) ⟨h0, by simp, .inl ⟨h1, rfl⟩⟩
  rw [hr, hw] at this
  rw [take_run ls j 1 v (by omega) (fun q a b => by have : q = j := by omega
                                                    rw [this]; exact hv)]
  exact this

theorem Enc.zeros {ls : List Int} {j m : Nat} {t : List (Int × Int)} (h : Enc ls j t) (s e : Int) (hm : 1 ≤ m) (hj : j + m ≤ ls.length) (hv : ∀ q, j ≤ q → q < j + m → ls.getD q 0 = 0)
    (hs : (s = 17 ∧ e = (m : Int) - 3 ∧ 3 ≤ m ∧ m ≤ 10) ∨ (s = 18 ∧ e = (m : Int) - 11 ∧ 11 ≤ m ∧ m ≤ 138)) : Enc ls (j + m) (t ++ [(s, e)]) := by
  refine ⟨?_, by have := h.2; simp; omega⟩
  have hr : reps (s, e) = m := by
    rcases hs with ⟨rfl, rfl, a, b⟩ | ⟨rfl, rfl, a, b⟩ <;> simp [reps] <;> omega
  have hw : val (ls.take j) (s, e) = 0 := by
    rcases hs with ⟨rfl, rfl, a, b⟩ | ⟨rfl, rfl, a, b⟩ <;> simp [val]
  have hok : Ok (ls.take j) (s, e) := by
    rcases hs with ⟨rfl, rfl, a, b⟩ | ⟨rfl, rfl, a, b⟩
    · exact ⟨by simp, by simp; omega, .inr (.inr (.inl ⟨rfl, by simp; omega⟩))⟩
    · exact ⟨by simp, by simp; omega, .inr (.inr (.inr ⟨rfl, by simp; omega⟩))⟩
  have := h.1.snoc hok
  rw [hr, hw] at this
  rw [take_run ls j m 0 hj hv]
  exact this

theorem Enc.same {ls : List Int} {j m : Nat} {t : List (Int × Int)} (h : Enc ls j t) (v e : Int) (hj1 : 1 ≤ j) (hj : j + m ≤ ls.length) (hv : ∀ q, j - 1 ≤ q → q < j + m → ls.getD q 0 = v)
    (he : e = (m : Int) - 3) (h3 : 3 ≤ m) (h6 : m ≤ 6) : Enc ls (j + m) (t ++ [(16, e)]) := by
  subst he
  refine ⟨?_, by have := h.2; simp; omega⟩
  have hr : reps (16, (m : Int) - 3) = m := by simp [reps]; omega
  have hl : (ls.take j).length = j := by simp; omega
  have hw : val (ls.take j) (16, (m : Int) - 3) = v := by
    have := hv (j - 1) (Nat.le_refl _) (by omega)
    simp only [val, hl]
    simp
    rw [List.getElem?_take, if_pos (by omega)]
    simpa [List.getD] using this
  have hok : Ok (ls.take j) (16, (m : Int) - 3) := ⟨by simp, by simp; omega, .inr (.inl ⟨rfl, by simp; omega, by rw [hl]; omega⟩)⟩
  have := h.1.snoc hok
  rw [hr, hw] at this
  rw [take_run ls j m v hj (fun q a b => hv q (by omega) b)]
  exact this

end Go.Proofs.Qxb6602467aMods.Runs
