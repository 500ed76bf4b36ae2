/-
  The plain mathematics of this seat: the text "queue NAME at ADDRESS", cut again. No Go in sight.
-/
namespace Go.Proofs.Qxb6001702aMods

def qB : ByteArray := ⟨#[113, 117, 101, 117, 101, 32]⟩
def atB : ByteArray := ⟨#[32, 97, 116, 32]⟩
def at3 : ByteArray := ⟨#[32, 97, 116]⟩

theorem qB_size : qB.size = 6 := rfl
theorem atB_size : atB.size = 4 := rfl

variable (n a : ByteArray)

theorem all_assoc : qB ++ n ++ atB ++ a = qB ++ (n ++ atB ++ a) := by simp only [ByteArray.append_assoc]
theorem all_size : (qB ++ n ++ atB ++ a).size = 6 + n.size + 4 + a.size := by
  simp only [ByteArray.size_append, qB_size, atB_size]
theorem rest_size : (n ++ atB ++ a).size = n.size + 4 + a.size := by
  simp only [ByteArray.size_append, atB_size]

theorem cut_head : (qB ++ n ++ atB ++ a).extract 0 6 = qB := by
  rw [all_assoc]; exact ByteArray.extract_append_eq_left rfl
theorem cut_rest : (qB ++ n ++ atB ++ a).extract 6 (6 + n.size + 4 + a.size) = n ++ atB ++ a := by
  rw [all_assoc]
  exact ByteArray.extract_append_eq_right rfl (by rw [rest_size, qB_size]; omega)
theorem cut_name : (n ++ atB ++ a).extract 0 n.size = n := by
  rw [ByteArray.append_assoc]; exact ByteArray.extract_append_eq_left rfl
theorem cut_address : (n ++ atB ++ a).extract (n.size + 4) (n.size + 4 + a.size) = a :=
  ByteArray.extract_append_eq_right (by rw [ByteArray.size_append, atB_size]) (by rw [ByteArray.size_append, atB_size])
theorem cut_at : (n ++ atB ++ a).extract n.size (n.size + 3) = at3 := by
  rw [ByteArray.append_assoc]
  have h := ByteArray.extract_append_size_add (a := n) (b := atB ++ a) (i := 0) (j := 3)
  rw [Nat.add_zero] at h
  rw [h]
  have e : atB ++ a = at3 ++ (⟨#[32]⟩ ++ a) := by
    rw [← ByteArray.append_assoc]; rfl
  rw [e]
  exact ByteArray.extract_append_eq_left rfl

theorem rest_blank (h : n.size + 3 < (n ++ atB ++ a).size) : (n ++ atB ++ a)[n.size + 3] = 32 := by
  rw [ByteArray.getElem_append_left (by rw [ByteArray.size_append, atB_size]; omega), ByteArray.getElem_append_right (by omega)]
  have : n.size + 3 - n.size = 3 := by omega
  simp only [this]
  rfl
theorem rest_tail (t : Nat) (ht : n.size + 3 < t) (h : t < (n ++ atB ++ a).size) (hf : ∀ k, ∀ h : k < a.size, a[k] ≠ 32) : (n ++ atB ++ a)[t] ≠ 32 := by
  rw [rest_size] at h
  rw [ByteArray.getElem_append_right (by rw [ByteArray.size_append, atB_size]; omega)]
  exact hf _ _

end Go.Proofs.Qxb6001702aMods
