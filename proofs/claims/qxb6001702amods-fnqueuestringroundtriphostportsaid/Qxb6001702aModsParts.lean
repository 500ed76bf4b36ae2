/-
  The contracts of the law's callees: the bound on the lengths, 'b1HasByte' and 'b1LastByte' at a blank, 'Queue.String'.
-/
import Derived.Test.Qxb6001702aModsRows
import Derived.WalkKit
import Derived.WalkSpells
import Derived.WalkLawsBesides
import Derived.ProofKit
import Derived.Below
namespace Go.Proofs.Qxb6001702aMods
open Go.RowKit
set_option linter.unusedVariables false

theorem hid {p : Prop} (h : p) : Hid p := h

theorem bytes_any (a b c : ByteArray) (w : World) (ha : a.size ≤ 9223372036854775807) (hb : b.size ≤ 9223372036854775807) (hc : c.size ≤ 9223372036854775807) :
    Calls Trym.prog 7 #[.string a, .string b, .string c] w fun e w' => e = .returned (.bool (decide (a.size + b.size + c.size ≤ 1048576))) ∧ w = w' := by
  by_cases h : a.size + b.size + c.size ≤ 1048576
  · go_enter Trym.func7, Trym.ntmps7
    go_wp2
    go_ret
    exact ⟨by simp [h], rfl⟩
  · by_cases h1 : a.size ≤ 1048576
    · by_cases h2 : b.size ≤ 1048576
      · by_cases h3 : a.size + b.size ≤ 1048576
        · by_cases h4 : c.size ≤ 1048576
          · go_enter Trym.func7, Trym.ntmps7
            go_wp2
            go_ret
            exact ⟨by simp [h], rfl⟩
          · go_enter Trym.func7, Trym.ntmps7
            go_wp2
            go_ret
            exact ⟨by simp [h], rfl⟩
        · go_enter Trym.func7, Trym.ntmps7
          go_wp2
          go_ret
          exact ⟨by simp [h], rfl⟩
      · go_enter Trym.func7, Trym.ntmps7
        go_wp2
        go_ret
        exact ⟨by simp [h], rfl⟩
    · go_enter Trym.func7, Trym.ntmps7
      go_wp2
      go_ret
      exact ⟨by simp [h], rfl⟩

/-- A blank stands in s. -/
def Has (s : ByteArray) : Prop := ∃ k, ∃ h : k < s.size, s[k] = 32
/-- None of the first k bytes is a blank. -/
def FreeTo (s : ByteArray) (k : Nat) : Prop := ∀ t, t < k → ∀ h : t < s.size, s[t] ≠ 32

theorem byte_eq {b : UInt8} (h : b = 32) : ((b.toNat : Int) == 32) = true := by subst h; rfl
theorem byte_ne {b : UInt8} (h : ¬ b = 32) : ((b.toNat : Int) == 32) = false := by
  simp only [beq_eq_false_iff_ne, ne_eq]
  intro e
  exact h (UInt8.toNat_inj.1 (by show b.toNat = 32; omega))

set_option maxHeartbeats 400000 in
theorem has_any (s : ByteArray) (w : World) (hs : s.size ≤ 1048576) :
    Calls Trym.prog 8 #[.string s, .int .u8 32] w fun e w' => ((e = .returned (.bool true) ∧ Has s) ∨ (e = .returned (.bool false) ∧ ¬ Has s)) ∧ w = w' := by
  go_enter Trym.func8, Trym.ntmps8
  go_wp2
  go_loop [5] (fun i => ∃ k : Nat, k ≤ s.size ∧ i = .int .i64 k ∧ FreeTo s k) (fun i => s.size - (intOf i).toNat)
  case atStart => exact ⟨0, Nat.zero_le _, rfl, fun t ht => by omega⟩
  case round =>
    obtain ⟨k, hk, rfl, hall⟩ := hrel
    have HA := hid hall
    clear hall
    by_cases hlt : k < s.size
    · by_cases he : s[k] = 32
      · have e1 := byte_eq he
        have E : Hid (Has s) := ⟨k, hlt, he⟩
        clear he
        go_wp2
        go_ret
        exact ⟨.inl ⟨rfl, E.out⟩, rfl⟩
      · have e1 := byte_ne he
        have E : Hid (FreeTo s (k + 1)) := fun t ht h => by
          by_cases e : t = k
          · subst e; exact he
          · exact HA.out t (by omega) h
        clear he
        go_wp2
        go_round
        case rel => exact ⟨k + 1, by omega, by go_num, E.out⟩
        case measure => simp [intOf]; omega
    · obtain rfl : k = s.size := by omega
      have E : Hid (¬ Has s) := fun ⟨t, ht, e⟩ => HA.out t ht ht e
      go_wp2
      go_ret
      exact ⟨.inr ⟨rfl, E.out⟩, rfl⟩

set_option maxHeartbeats 400000 in
theorem last_at (s : ByteArray) (j : Nat) (w : World) (hs : s.size ≤ 1048576) (hj : j < s.size) (he : s[j] = 32) (hf : ∀ t, j < t → ∀ h : t < s.size, s[t] ≠ 32) :
    Calls Trym.prog 10 #[.string s, .int .u8 32] w fun e w' => e = .returned (.int .i64 j) ∧ w = w' := by
  have HF := hid hf
  have HE := hid he
  clear hf he
  go_enter Trym.func10, Trym.ntmps10
  go_wp2
  go_loop [5] (fun i => ∃ k : Nat, j ≤ k ∧ k < s.size ∧ i = .int .i64 k) (fun i => (intOf i).toNat)
  case atStart => exact ⟨s.size - 1, by omega, by omega, by go_num⟩
  case round =>
    obtain ⟨k, hk1, hk2, rfl⟩ := hrel
    by_cases hkj : k = j
    · subst hkj
      have e1 := byte_eq HE.out
      go_wp2
      go_ret
      exact ⟨rfl, rfl⟩
    · have e1 := byte_ne (HF.out k (by omega) hk2)
      have hk0 : 0 < k := by omega
      go_wp2
      go_round
      case rel => exact ⟨k - 1, by omega, by omega, by go_num⟩
      case measure => simp [intOf]; omega

set_option maxHeartbeats 400000 in
theorem string_any (t n a : ByteArray) (w : World) (hn : n.size ≤ 1048576) (ha : a.size ≤ 1048576) (he : a.toList.isEmpty = false) :
    Calls Trym.prog 9 #[.agg #[.string t, .string a, .string n]] w fun e w' => e = .returned (.string (⟨#[113, 117, 101, 117, 101, 32]⟩ ++ n ++ ⟨#[32, 97, 116, 32]⟩ ++ a)) ∧ Grown w w' := by
  go_enter Trym.func9, Trym.ntmps9
  go_wp2
  go_ret
  exact ⟨rfl, (Grown.refl _).alloc _ _⟩
end Go.Proofs.Qxb6001702aMods
