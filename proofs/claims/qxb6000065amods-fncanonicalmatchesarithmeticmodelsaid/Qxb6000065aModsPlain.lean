/-
  The plain mathematics of this seat: sums with a carry over lists of bytes. No Go in sight.
-/
namespace Go.Proofs.Qxb6000065aMods

def plusL : List Int → Int → List Int
  | [], _ => []
  | y :: ys, c => (y + c) % 256 :: plusL ys ((y + c) / 256)
def carryL : List Int → Int → Int
  | [], c => c
  | y :: ys, c => carryL ys ((y + c) / 256)

theorem plusL_length (ys : List Int) (c : Int) : (plusL ys c).length = ys.length := by
  induction ys generalizing c with
  | nil => rfl
  | cons y ys ih => simp [plusL, ih]

theorem carryL_snoc (ys : List Int) (c : Int) (k : Nat) (hk : k < ys.length) :
    carryL (ys.take (k + 1)) c = (ys.getD k 0 + carryL (ys.take k) c) / 256 := by
  induction ys generalizing c k with
  | nil => simp at hk
  | cons y ys ih =>
    cases k with
    | zero => simp [carryL]
    | succ k =>
      simp only [List.length_cons] at hk
      simp only [List.take_succ_cons, carryL, List.getD_cons_succ]
      exact ih _ k (by omega)

theorem plusL_at (ys : List Int) (c : Int) (k : Nat) (hk : k < ys.length) :
    (plusL ys c).getD k 0 = (ys.getD k 0 + carryL (ys.take k) c) % 256 := by
  induction ys generalizing c k with
  | nil => simp at hk
  | cons y ys ih =>
    cases k with
    | zero => simp [plusL, carryL]
    | succ k =>
      simp only [List.length_cons] at hk
      simp only [List.take_succ_cons, carryL, plusL, List.getD_cons_succ]
      exact ih _ k (by omega)

/-- Every number of the list is a byte. -/
def Bytes (ys : List Int) : Prop := ∀ i, 0 ≤ ys.getD i 0 ∧ ys.getD i 0 ≤ 255

theorem carryL_range (ys : List Int) (c : Int) (h : Bytes ys) (h0 : 0 ≤ c) (h1 : c ≤ 255) (k : Nat) (hk : k ≤ ys.length) :
    0 ≤ carryL (ys.take k) c ∧ carryL (ys.take k) c ≤ 255 := by
  induction k with
  | zero => simp [carryL]; omega
  | succ k ih =>
    have := ih (by omega)
    rw [carryL_snoc ys c k (by omega)]
    have := h k
    omega

theorem plusL_bytes (ys : List Int) (c : Int) : Bytes (plusL ys c) := by
  intro i
  by_cases hi : i < ys.length
  · rw [plusL_at ys c i hi]; omega
  · rw [List.getD_eq_getElem?_getD, List.getElem?_eq_none (by rw [plusL_length]; omega)]; simp

/-- The carry behind the first byte goes on as long as the bytes are 255. -/
theorem carry_one (ys : List Int) (c : Int) (h : Bytes ys) (h0 : 0 ≤ c) (h1 : c ≤ 255) (k : Nat) (hk : k < ys.length) :
    (carryL (ys.take (k + 1)) c = 1 ∧ 256 ≤ ys.getD 0 0 + c ∧ ∀ i, 1 ≤ i → i ≤ k → ys.getD i 0 = 255) ∨
    (carryL (ys.take (k + 1)) c = 0 ∧ ¬ (256 ≤ ys.getD 0 0 + c ∧ ∀ i, 1 ≤ i → i ≤ k → ys.getD i 0 = 255)) := by
  induction k with
  | zero =>
    rw [carryL_snoc ys c 0 hk]
    have := h 0
    simp only [List.take_zero, carryL]
    by_cases hc : 256 ≤ ys.getD 0 0 + c
    · exact .inl ⟨by omega, hc, fun i a b => by omega⟩
    · exact .inr ⟨by omega, fun ⟨a, _⟩ => hc a⟩
  | succ k ih =>
    rw [carryL_snoc ys c (k + 1) hk]
    have hb := h (k + 1)
    rcases ih (by omega) with ⟨e, a, b⟩ | ⟨e, n⟩
    · by_cases hy : ys.getD (k + 1) 0 = 255
      · refine .inl ⟨by rw [e, hy]; decide, a, fun i p q => ?_⟩
        by_cases hi : i = k + 1
        · rw [hi]; exact hy
        · exact b i p (by omega)
      · refine .inr ⟨by rw [e]; omega, fun ⟨_, hh⟩ => hy (hh (k + 1) (by omega) (Nat.le_refl _))⟩
    · refine .inr ⟨by rw [e]; omega, fun ⟨a, hh⟩ => n ⟨a, fun i p q => hh i p (by omega)⟩⟩

/-- y is at least p = 2^255 - 19 (bytes little-endian, the top bit clear). -/
def High (ys : List Int) : Prop := ys.getD 31 0 = 127 ∧ 237 ≤ ys.getD 0 0 ∧ ∀ i, 1 ≤ i → i ≤ 30 → ys.getD i 0 = 255
/-- y = p - 1. -/
def MinusOne (ys : List Int) : Prop := ys.getD 31 0 = 127 ∧ ys.getD 0 0 = 236 ∧ ∀ i, 1 ≤ i → i ≤ 30 → ys.getD i 0 = 255
/-- y = 1. -/
def One (ys : List Int) : Prop := ys.getD 0 0 = 1 ∧ ∀ i, 1 ≤ i → i ≤ 31 → ys.getD i 0 = 0

theorem reaches_law (ys : List Int) (hl : ys.length = 32) (h : Bytes ys) (ht : ys.getD 31 0 ≤ 127) : (plusL ys 19).getD 31 0 / 128 = 1 ↔ High ys := by
  rw [plusL_at ys 19 31 (by omega)]
  have h31 := h 31
  rcases carry_one ys 19 h (by omega) (by omega) 30 (by omega) with ⟨e, a, b⟩ | ⟨e, n⟩
  · rw [e]
    constructor
    · intro hh; exact ⟨by omega, by omega, b⟩
    · rintro ⟨a1, _, _⟩; rw [a1]; decide
  · rw [e]
    constructor
    · intro hh; omega
    · rintro ⟨a1, a2, a3⟩; exact absurd ⟨by omega, a3⟩ n

theorem hits_law (ys : List Int) (hl : ys.length = 32) (h : Bytes ys) (ht : ys.getD 31 0 ≤ 127) :
    ((plusL ys 20).getD 31 0 = 128 ∧ ∀ i, i < 31 → (plusL ys 20).getD i 0 = 0) ↔ MinusOne ys := by
  have h31 := h 31
  have h0 := h 0
  constructor
  · rintro ⟨a, b⟩
    rw [plusL_at ys 20 31 (by omega)] at a
    have b0 := b 0 (by omega)
    rw [plusL_at ys 20 0 (by omega)] at b0
    simp only [List.take_zero, carryL] at b0
    rcases carry_one ys 20 h (by omega) (by omega) 30 (by omega) with ⟨e, c, d⟩ | ⟨e, n⟩
    · rw [e] at a
      exact ⟨by omega, by omega, d⟩
    · rw [e] at a; omega
  · rintro ⟨a, b, c⟩
    have car : ∀ k, k ≤ 30 → carryL (ys.take (k + 1)) 20 = 1 := by
      intro k hk
      rcases carry_one ys 20 h (by omega) (by omega) k (by omega) with ⟨e, _⟩ | ⟨e, n⟩
      · exact e
      · exact absurd ⟨by omega, fun i p q => c i p (by omega)⟩ n
    refine ⟨?_, fun i hi => ?_⟩
    · rw [plusL_at ys 20 31 (by omega), car 30 (by omega), a]; decide
    · rw [plusL_at ys 20 i (by omega)]
      cases i with
      | zero => simp only [List.take_zero, carryL]; omega
      | succ i => rw [car i (by omega), c (i + 1) (by omega) (by omega)]; decide

theorem high_not_one (ys : List Int) (h : High ys) : ¬ One ys := fun ⟨_, b⟩ => by
  have := h.1; have := b 31 (by omega) (by omega); omega

end Go.Proofs.Qxb6000065aMods
