/-
  The plain mathematics of this seat, second part: the three lists of 32 bytes that 'canonical' makes.
-/
import Derived.Test.Qxb6000065aModsPlain
namespace Go.Proofs.Qxb6000065aMods

/-- The first 32 bytes, the top bit cleared. -/
def yL (zs : List Int) : List Int := (zs.take 32).set 31 (zs.getD 31 0 % 128)
def oneL : List Int := 1 :: List.replicate 31 0
def mL (j : Nat) : List Int := (List.range 32).map fun t => if t = 0 then 236 else if t = 31 then 127 else if t < j then 255 else 0

theorem yL_length (zs : List Int) (h : 32 ≤ zs.length) : (yL zs).length = 32 := by simp [yL]; omega
theorem oneL_length : oneL.length = 32 := rfl
theorem mL_length (j : Nat) : (mL j).length = 32 := by simp [mL]

theorem yL_at (zs : List Int) (_h : 32 ≤ zs.length) (i : Nat) (hi : i < 31) : (yL zs).getD i 0 = zs.getD i 0 := by
  simp only [yL, List.getD_eq_getElem?_getD]
  rw [List.getElem?_set_ne (by omega), List.getElem?_take_of_lt (by omega)]
theorem yL_top (zs : List Int) (h : 32 ≤ zs.length) : (yL zs).getD 31 0 = zs.getD 31 0 % 128 := by
  simp only [yL, List.getD_eq_getElem?_getD]
  rw [List.getElem?_set_self (by simp; omega)]
  rfl
theorem yL_bytes (zs : List Int) (h : 32 ≤ zs.length) (hb : Bytes zs) : Bytes (yL zs) := by
  intro i
  rcases Nat.lt_trichotomy i 31 with hi | rfl | hi
  · rw [yL_at zs h i hi]; exact hb i
  · rw [yL_top zs h]; omega
  · rw [List.getD_eq_getElem?_getD, List.getElem?_eq_none (by rw [yL_length zs h]; omega)]; simp

theorem ext32 {a b : List Int} (ha : a.length = 32) (hb : b.length = 32) (h : ∀ i, i < 32 → a.getD i 0 = b.getD i 0) : a = b := by
  apply List.ext_getElem (by omega)
  intro i h1 h2
  have := h i (by omega)
  simpa [List.getD_eq_getElem?_getD, h1, h2] using this

theorem oneL_zero : oneL.getD 0 0 = 1 := rfl
theorem oneL_at (i : Nat) (h1 : 1 ≤ i) (h2 : i ≤ 31) : oneL.getD i 0 = 0 := by
  obtain ⟨k, rfl⟩ : ∃ k, i = k + 1 := ⟨i - 1, by omega⟩
  simp only [oneL, List.getD_eq_getElem?_getD, List.getElem?_cons_succ]
  rw [List.getElem?_replicate]
  split <;> rfl
theorem mL_at (j i : Nat) (h : i < 32) : (mL j).getD i 0 = if i = 0 then 236 else if i = 31 then 127 else if i < j then 255 else 0 := by
  simp [mL, List.getD_eq_getElem?_getD, h]

theorem one_iff (ys : List Int) (hy : ys.length = 32) : ys = oneL ↔ One ys := by
  constructor
  · rintro rfl
    exact ⟨rfl, oneL_at⟩
  · rintro ⟨a, b⟩
    refine ext32 hy rfl fun i hi => ?_
    by_cases h0 : i = 0
    · subst h0; rw [a]; rfl
    · rw [b i (by omega) (by omega), oneL_at i (by omega) (by omega)]

theorem minus_iff (ys : List Int) (hy : ys.length = 32) : ys = mL 31 ↔ MinusOne ys := by
  constructor
  · rintro rfl
    refine ⟨by rw [mL_at _ _ (by omega)]; decide, by rw [mL_at _ _ (by omega)]; decide, fun i a b => ?_⟩
    rw [mL_at _ _ (by omega), if_neg (by omega), if_neg (by omega), if_pos (by omega)]
  · rintro ⟨a, b, c⟩
    refine ext32 hy (mL_length _) fun i hi => ?_
    rw [mL_at _ _ hi]
    by_cases h0 : i = 0
    · subst h0; rw [b]; rfl
    · by_cases h1 : i = 31
      · subst h1; rw [a]; rfl
      · rw [c i (by omega) (by omega), if_neg h0, if_neg h1, if_pos (by omega)]

/-- The flag 'high' behind k rounds. -/
def hiB (ys : List Int) (k : Nat) : Bool := (ys.getD 31 0 == 127 && decide (237 ≤ ys.getD 0 0)) && (List.range k).all fun t => ys.getD (t + 1) 0 == 255

theorem hiB_zero (ys : List Int) : hiB ys 0 = (ys.getD 31 0 == 127 && decide (237 ≤ ys.getD 0 0)) := by simp [hiB]
theorem hiB_succ (ys : List Int) (k : Nat) : hiB ys (k + 1) = (hiB ys k && (ys.getD (k + 1) 0 == 255)) := by
  simp only [hiB, List.range_succ, List.all_append, List.all_cons, List.all_nil, Bool.and_true, Bool.and_assoc]
theorem hiB_iff (ys : List Int) : hiB ys 30 = true ↔ High ys := by
  simp only [hiB, High, Bool.and_eq_true, beq_iff_eq, decide_eq_true_eq, List.all_eq_true, List.mem_range, and_assoc]
  refine and_congr_right fun _ => and_congr_right fun _ => ?_
  constructor
  · intro h i a b
    have := h (i - 1) (by omega)
    rwa [show i - 1 + 1 = i from by omega] at this
  · intro h t ht
    exact h (t + 1) (by omega) (by omega)

/-- What 'canonical' answers. -/
def Canon (zs : List Int) : Prop := ¬ High (yL zs) ∧ (zs.getD 31 0 / 128 = 0 ∨ (¬ One (yL zs) ∧ ¬ MinusOne (yL zs)))

end Go.Proofs.Qxb6000065aMods
