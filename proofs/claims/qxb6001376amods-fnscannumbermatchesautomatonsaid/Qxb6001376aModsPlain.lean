/-
  The plain mathematics of this seat: the automaton of JSON's numbers, run with maximal munch over a list of bytes. No Go in sight.
-/
namespace Go.Proofs.Qxb6001376aMods

def Dig (c : Int) : Prop := 48 ≤ c ∧ c ≤ 57
theorem dig_iff (c : Int) : Dig c ↔ (48 ≤ c ∧ c ≤ 57) := Iff.rfl

/-- The table, as the Go text has it. -/
def stepF (s c : Int) : Int :=
  if s = 0 then (if c = 45 then 1 else if c = 48 then 2 else if 48 ≤ c ∧ c ≤ 57 then 3 else -1)
  else if s = 1 then (if c = 48 then 2 else if 48 ≤ c ∧ c ≤ 57 then 3 else -1)
  else if s = 2 then (if c = 46 then 4 else if c = 101 ∨ c = 69 then 6 else -1)
  else if s = 3 then (if 48 ≤ c ∧ c ≤ 57 then 3 else if c = 46 then 4 else if c = 101 ∨ c = 69 then 6 else -1)
  else if s = 4 then (if 48 ≤ c ∧ c ≤ 57 then 5 else -1)
  else if s = 5 then (if 48 ≤ c ∧ c ≤ 57 then 5 else if c = 101 ∨ c = 69 then 6 else -1)
  else if s = 6 then (if c = 43 ∨ c = 45 then 7 else if 48 ≤ c ∧ c ≤ 57 then 8 else -1)
  else if s = 7 ∨ s = 8 then (if 48 ≤ c ∧ c ≤ 57 then 8 else -1)
  else -1

theorem stepF_0 (c : Int) : stepF 0 c = (if c = 45 then 1 else if c = 48 then 2 else if 48 ≤ c ∧ c ≤ 57 then 3 else -1) := by unfold stepF; rw [if_pos rfl]
theorem stepF_3 (c : Int) : stepF 3 c = (if 48 ≤ c ∧ c ≤ 57 then 3 else if c = 46 then 4 else if c = 101 ∨ c = 69 then 6 else -1) := by
  unfold stepF; rw [if_neg (by decide), if_neg (by decide), if_neg (by decide), if_pos rfl]
theorem stepF_4 (c : Int) : stepF 4 c = (if 48 ≤ c ∧ c ≤ 57 then 5 else -1) := by
  unfold stepF; rw [if_neg (by decide), if_neg (by decide), if_neg (by decide), if_neg (by decide), if_pos rfl]
theorem stepF_5 (c : Int) : stepF 5 c = (if 48 ≤ c ∧ c ≤ 57 then 5 else if c = 101 ∨ c = 69 then 6 else -1) := by
  unfold stepF; rw [if_neg (by decide), if_neg (by decide), if_neg (by decide), if_neg (by decide), if_neg (by decide), if_pos rfl]

theorem stepF_range (s c : Int) : stepF s c = -1 ∨ (0 ≤ stepF s c ∧ stepF s c ≤ 8) := by
  unfold stepF
  repeat' split
  all_goals omega

def acc (s : Int) : Bool := s == 2 || s == 3 || s == 5 || s == 8

/-- What the model answers when it stops at j in state s. -/
def fin (s : Int) (j : Nat) : Int × Bool := if acc s then ((j : Int), true) else (0, false)

def runM : Int → Nat → List Int → Int × Bool
  | s, j, [] => fin s j
  | s, j, c :: cs => if stepF s c < 0 then fin s j else runM (stepF s c) (j + 1) cs

/-- The model from state s at position j of bs. -/
def M (bs : List Int) (s : Int) (j : Nat) : Int × Bool := runM s j (bs.drop j)

theorem M_stop (bs : List Int) (s : Int) (j : Nat) (h : ¬ j < bs.length) : M bs s j = fin s j := by
  unfold M
  rw [List.drop_eq_nil_of_le (by omega)]
  rfl
theorem M_eq (bs : List Int) (s : Int) (j : Nat) (h : j < bs.length) : M bs s j = if stepF s (bs.getD j 0) < 0 then fin s j else M bs (stepF s (bs.getD j 0)) (j + 1) := by
  unfold M
  rw [List.drop_eq_getElem_cons h]
  have : bs.getD j 0 = bs[j] := by simp [List.getD_eq_getElem?_getD, h]
  rw [this]
  rfl
theorem M_step (bs : List Int) (s t : Int) (j : Nat) (h : j < bs.length) (hs : stepF s (bs.getD j 0) = t) (ht : 0 ≤ t) : M bs s j = M bs t (j + 1) := by
  rw [M_eq bs s j h, hs, if_neg (by omega)]
theorem M_dead (bs : List Int) (s : Int) (j : Nat) (h : j < bs.length → stepF s (bs.getD j 0) = -1) : M bs s j = fin s j := by
  by_cases hj : j < bs.length
  · rw [M_eq bs s j hj, h hj]; rfl
  · exact M_stop bs s j hj

/-- Ahead of the whole part. -/
def f1 (c : Int) : Int := if c = 48 then 2 else if 48 ≤ c ∧ c ≤ 57 then 3 else -1
/-- Behind the whole part. -/
def f2 (c : Int) : Int := if c = 46 then 4 else if c = 101 ∨ c = 69 then 6 else -1
/-- Behind the fraction. -/
def f3 (c : Int) : Int := if c = 101 ∨ c = 69 then 6 else -1

/-- Behind the exponent's sign, or where there is none. -/
def f4 (c : Int) : Int := if 48 ≤ c ∧ c ≤ 57 then 8 else -1

/-- At k the model is in some state, accepting or not, whose moves on the next byte are f's. -/
def At (bs : List Int) (n : Nat) (r : Int × Bool) (b : Bool) (f : Int → Int) (k : Nat) : Prop := ∃ s, r = M bs s k ∧ acc s = b ∧ (k < n → stepF s (bs.getD k 0) = f (bs.getD k 0))

section
variable {bs : List Int} {n : Nat} {r : Int × Bool} {k : Nat}

theorem at_start (_hn : bs.length = n) (i : Nat) (h : ¬ (i < n ∧ bs.getD i 0 = 45)) : At bs n (M bs 0 i) false f1 i :=
  ⟨0, rfl, rfl, fun hi => by
    have : ¬ bs.getD i 0 = 45 := fun e => h ⟨hi, e⟩
    rw [stepF_0, if_neg this]; rfl⟩
theorem at_sign (hn : bs.length = n) (i : Nat) (h : i < n) (e : bs.getD i 0 = 45) : At bs n (M bs 0 i) false f1 (i + 1) :=
  ⟨1, M_step bs 0 1 i (by omega) (by rw [e]; rfl) (by decide), rfl, fun _ => by simp [stepF, f1]⟩

/-- Nothing accepted: the answer is no. -/
theorem at_no {f : Int → Int} (hn : bs.length = n) (h : At bs n r false f k) (d : k < n → f (bs.getD k 0) = -1) : r = (0, false) := by
  obtain ⟨s, hr, ha, hf⟩ := h
  rw [hr, M_dead bs s k (fun hk => (hf (by omega)).trans (d (by omega)))]
  simp [fin, ha]
theorem at_yes {f : Int → Int} (hn : bs.length = n) (h : At bs n r true f k) (d : k < n → f (bs.getD k 0) = -1) : r = ((k : Int), true) := by
  obtain ⟨s, hr, ha, hf⟩ := h
  rw [hr, M_dead bs s k (fun hk => (hf (by omega)).trans (d (by omega)))]
  simp [fin, ha]

/-- One step. -/
theorem at_next {b : Bool} {f : Int → Int} (hn : bs.length = n) (h : At bs n r b f k) (hk : k < n) (t : Int) (ht : f (bs.getD k 0) = t) (h0 : 0 ≤ t) : r = M bs t (k + 1) := by
  obtain ⟨s, hr, ha, hf⟩ := h
  rw [hr]
  exact M_step bs s t k (by omega) ((hf hk).trans ht) h0
theorem digits_next {t : Int} (hn : bs.length = n) (h : r = M bs t k) (hk : k < n) (ht : stepF t (bs.getD k 0) = t) (h0 : 0 ≤ t) : r = M bs t (k + 1) := by
  rw [h]; exact M_step bs t t k (by omega) ht h0
end

theorem step3_dig {c : Int} (h : 48 ≤ c ∧ c ≤ 57) : stepF 3 c = 3 := by simp [stepF, h]
theorem step5_dig {c : Int} (h : 48 ≤ c ∧ c ≤ 57) : stepF 5 c = 5 := by simp [stepF, h]
theorem step8_dig {c : Int} (h : 48 ≤ c ∧ c ≤ 57) : stepF 8 c = 8 := by simp [stepF, h]
theorem step4_dig {c : Int} (h : 48 ≤ c ∧ c ≤ 57) : stepF 4 c = 5 := by simp [stepF, h]
theorem step4_no {c : Int} (h : ¬ (48 ≤ c ∧ c ≤ 57)) : stepF 4 c = -1 := by rw [stepF_4, if_neg h]
theorem step3_no {c : Int} (h : ¬ (48 ≤ c ∧ c ≤ 57)) : stepF 3 c = f2 c := by rw [stepF_3, if_neg h]; rfl
theorem step5_no {c : Int} (h : ¬ (48 ≤ c ∧ c ≤ 57)) : stepF 5 c = f3 c := by rw [stepF_5, if_neg h]; rfl
theorem step8_no {c : Int} (h : ¬ (48 ≤ c ∧ c ≤ 57)) : stepF 8 c = -1 := by simp [stepF, h]
theorem step7_dig {c : Int} (h : 48 ≤ c ∧ c ≤ 57) : stepF 7 c = 8 := by simp [stepF, h]
theorem step7_no {c : Int} (h : ¬ (48 ≤ c ∧ c ≤ 57)) : stepF 7 c = -1 := by simp [stepF, h]
theorem step2_any (c : Int) : stepF 2 c = f2 c := by simp [stepF, f2]
theorem step6_sign {c : Int} (h : c = 43 ∨ c = 45) : stepF 6 c = 7 := by simp [stepF, h]
theorem step6_dig {c : Int} (h : 48 ≤ c ∧ c ≤ 57) : stepF 6 c = 8 := by
  have : ¬ (c = 43 ∨ c = 45) := by omega
  simp [stepF, h, this]
theorem step6_no {c : Int} (h : ¬ (48 ≤ c ∧ c ≤ 57)) (h' : ¬ (c = 43 ∨ c = 45)) : stepF 6 c = -1 := by simp [stepF, h, h']


theorem step7_any (c : Int) : stepF 7 c = f4 c := by simp [stepF, f4]
theorem step6_f4 {c : Int} (h' : ¬ (c = 43 ∨ c = 45)) : stepF 6 c = f4 c := by simp [stepF, f4, h']
theorem f2_f3 {c : Int} (h : ¬ c = 46) : f2 c = f3 c := by rw [f2, if_neg h]; rfl

theorem at_mono {bs : List Int} {n : Nat} {r : Int × Bool} {k : Nat} {b : Bool} {f g : Int → Int} (h : At bs n r b f k) (e : k < n → f (bs.getD k 0) = g (bs.getD k 0)) : At bs n r b g k := by
  obtain ⟨s, h1, h2, h3⟩ := h
  exact ⟨s, h1, h2, fun hk => (h3 hk).trans (e hk)⟩

end Go.Proofs.Qxb6001376aMods
