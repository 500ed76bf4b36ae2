/-
  The plain mathematics of this seat: counting the entries of R that name a nought of W. No Go in sight.
-/
namespace Go.Proofs.Qxb6001022aMods

/-- How many of the first k entries of R name a nought of W. -/
def cz (W R : List Int) : Nat → Nat
  | 0 => 0
  | k + 1 => cz W R k + if W.getD (R.getD k 0).toNat 0 = 0 then 1 else 0

theorem cz_le (W R : List Int) (k : Nat) : cz W R k ≤ k := by
  induction k with
  | zero => simp [cz]
  | succ k ih => simp only [cz]; split <;> omega

/-- Every one of the first k entries of R is an index of W. -/
def OkTo (W R : List Int) (k : Nat) : Prop := ∀ i, i < k → 0 ≤ R.getD i 0 ∧ R.getD i 0 < W.length

theorem okTo_succ {W R : List Int} {k : Nat} (h : OkTo W R k) (h0 : 0 ≤ R.getD k 0) (h1 : R.getD k 0 < W.length) : OkTo W R (k + 1) := by
  intro i hi
  by_cases e : i = k
  · rw [e]; exact ⟨h0, h1⟩
  · exact h i (by omega)

theorem cz_hit {W R : List Int} {k : Nat} (h : W.getD (R.getD k 0).toNat 0 = 0) : cz W R (k + 1) = cz W R k + 1 := by simp only [cz, if_pos h]
theorem cz_miss {W R : List Int} {k : Nat} (h : ¬ W.getD (R.getD k 0).toNat 0 = 0) : cz W R (k + 1) = cz W R k := by simp only [cz, if_neg h]; omega

theorem not_ok {W R : List Int} {n : Nat} (h : ¬ OkTo W R n) {k : Nat} (hk : k ≤ n) (ok : OkTo W R k) : k < n := by
  rcases Nat.lt_or_ge k n with a | a
  · exact a
  · have e : k = n := by omega
    subst e; exact absurd ok h

end Go.Proofs.Qxb6001022aMods
