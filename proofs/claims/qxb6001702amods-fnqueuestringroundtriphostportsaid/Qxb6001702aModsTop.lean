import Derived.Test.Qxb6001702aModsParts
import Derived.Test.Qxb6001702aModsPlain
namespace Go.Proofs.Qxb6001702aMods
open Go.RowKit
set_option linter.unusedVariables false

theorem grown_trans {a b c : World} (h : Grown a b) (k : Grown b c) : Grown a c :=
  ⟨World.keptBut_trans h.1 k.1, fun x => (k.2.1 x).trans (h.2.1 x), Nat.le_trans h.2.2 k.2.2⟩

set_option maxHeartbeats 1000000 in
theorem top_main (t n a S R : ByteArray) (j : Nat) (w : World) (ht : t.size ≤ 262144) (hn : n.size ≤ 262144) (ha : a.size ≤ 262144) (he : a.toList.isEmpty = false)
    (hsum : t.size + n.size + a.size ≤ 1048576)
    (C8 : Hid (∀ W : World, Calls Trym.prog 8 #[.string a, .int .u8 32] W fun e w' => e = .returned (.bool false) ∧ W = w'))
    (C9 : Hid (∀ W : World, Calls Trym.prog 9 #[.agg #[.string t, .string a, .string n]] W fun e w' => e = .returned (.string S) ∧ Grown W w'))
    (C10 : Hid (∀ W : World, Calls Trym.prog 10 #[.string R, .int .u8 32] W fun e w' => e = .returned (.int .i64 j) ∧ W = w'))
    (hS1 : 6 ≤ S.size) (hS2 : S.size ≤ 1048576) (hj : 3 ≤ j) (hj2 : j < R.size) (hR : R.size ≤ 1048576)
    (x0 : S.extract 0 6 = ⟨#[113, 117, 101, 117, 101, 32]⟩) (x1 : S.extract 6 S.size = R) (x2 : R.extract (j - 3) j = ⟨#[32, 97, 116]⟩)
    (x3 : R.extract 0 (j - 3) = n) (x4 : R.extract (j + 1) R.size = a) :
    Calls Trym.prog 3 #[.string t, .string n, .string a] w fun e w' => e = .returned (.bool true) ∧ Grown w w' := by
  have C7 : Hid (Calls Trym.prog 7 #[.string t, .string n, .string a] w fun e w' => e = .returned (.bool true) ∧ w = w') :=
    (bytes_any t n a w (by omega) (by omega) (by omega)).mono fun e w' ⟨h1, h2⟩ => ⟨by rw [h1, decide_eq_true hsum], h2⟩
  go_enter Trym.func3, Trym.ntmps3
  go_wp2_with (first | (go_at_call 7; refine (C7.out).mono ?_; rintro e w' ⟨rfl, rfl⟩) | (go_at_call 8; refine (C8.out _).mono ?_; rintro e w' ⟨rfl, rfl⟩) | (go_at_call 9; refine (C9.out _).mono ?_))
  rintro e w1 ⟨rfl, hg⟩
  go_wp2_with (go_at_call 10; refine (C10.out _).mono ?_)
  rintro e w2 ⟨rfl, rfl⟩
  go_wp2
  go_ret
  exact ⟨rfl, grown_trans ((Grown.refl w).alloc _ _) hg⟩

set_option maxHeartbeats 1000000 in
/-- The ways on which the law answers at once. -/
theorem top_early (t n a : ByteArray) (w : World) (ht : t.size ≤ 9223372036854775807) (hn : n.size ≤ 9223372036854775807) (ha : a.size ≤ 9223372036854775807)
    (h : ¬ (t.size + n.size + a.size ≤ 1048576 ∧ t.size ≤ 262144 ∧ n.size ≤ 262144 ∧ a.size ≤ 262144 ∧ a.toList.isEmpty = false ∧ ¬ Has a)) :
    Calls Trym.prog 3 #[.string t, .string n, .string a] w fun e w' => e = .returned (.bool true) ∧ Grown w w' := by
  by_cases h0 : t.size + n.size + a.size ≤ 1048576
  · have C7 : Hid (Calls Trym.prog 7 #[.string t, .string n, .string a] w fun e w' => e = .returned (.bool true) ∧ w = w') :=
      (bytes_any t n a w ht hn ha).mono fun e w' ⟨h1, h2⟩ => ⟨by rw [h1, decide_eq_true h0], h2⟩
    by_cases h1 : t.size ≤ 262144
    · by_cases h2 : n.size ≤ 262144
      · by_cases h3 : a.size ≤ 262144
        · cases he : a.toList.isEmpty with
          | true =>
            clear h
            go_enter Trym.func3, Trym.ntmps3
            go_wp2_with (go_at_call 7; refine (C7.out).mono ?_; rintro e w' ⟨rfl, rfl⟩)
            go_ret
            exact ⟨rfl, Grown.refl _⟩
          | false =>
            by_cases hh : Has a
            · have C8 : Hid (∀ W : World, Calls Trym.prog 8 #[.string a, .int .u8 32] W fun e w' => e = .returned (.bool true) ∧ W = w') :=
                fun W => (has_any a W (by omega)).mono fun e w' ⟨h1, h2⟩ => ⟨h1.elim (·.1) (fun x => absurd hh x.2), h2⟩
              clear h hh
              go_enter Trym.func3, Trym.ntmps3
              go_wp2_with (first | (go_at_call 7; refine (C7.out).mono ?_; rintro e w' ⟨rfl, rfl⟩) | (go_at_call 8; refine (C8.out _).mono ?_; rintro e w' ⟨rfl, rfl⟩))
              go_ret
              exact ⟨rfl, Grown.refl _⟩
            · exact absurd ⟨h0, h1, h2, h3, he, hh⟩ h
        · clear h
          go_enter Trym.func3, Trym.ntmps3
          go_wp2_with (go_at_call 7; refine (C7.out).mono ?_; rintro e w' ⟨rfl, rfl⟩)
          go_ret
          exact ⟨rfl, Grown.refl _⟩
      · clear h
        go_enter Trym.func3, Trym.ntmps3
        go_wp2_with (go_at_call 7; refine (C7.out).mono ?_; rintro e w' ⟨rfl, rfl⟩)
        go_ret
        exact ⟨rfl, Grown.refl _⟩
    · clear h
      go_enter Trym.func3, Trym.ntmps3
      go_wp2_with (go_at_call 7; refine (C7.out).mono ?_; rintro e w' ⟨rfl, rfl⟩)
      go_ret
      exact ⟨rfl, Grown.refl _⟩
  · have C7 : Hid (Calls Trym.prog 7 #[.string t, .string n, .string a] w fun e w' => e = .returned (.bool false) ∧ w = w') :=
      (bytes_any t n a w ht hn ha).mono fun e w' ⟨h1, h2⟩ => ⟨by rw [h1, decide_eq_false h0], h2⟩
    clear h
    go_enter Trym.func3, Trym.ntmps3
    go_wp2_with (go_at_call 7; refine (C7.out).mono ?_; rintro e w' ⟨rfl, rfl⟩)
    go_ret
    exact ⟨rfl, Grown.refl _⟩

theorem top_any (t n a : ByteArray) (w : World) (ht : t.size ≤ 9223372036854775807) (hn : n.size ≤ 9223372036854775807) (ha : a.size ≤ 9223372036854775807) :
    Calls Trym.prog 3 #[.string t, .string n, .string a] w fun e w' => e = .returned (.bool true) ∧ Grown w w' := by
  by_cases h : t.size + n.size + a.size ≤ 1048576 ∧ t.size ≤ 262144 ∧ n.size ≤ 262144 ∧ a.size ≤ 262144 ∧ a.toList.isEmpty = false ∧ ¬ Has a
  · obtain ⟨h0, h1, h2, h3, he, hh⟩ := h
    have sS := all_size n a
    have sR := rest_size n a
    have hlt : n.size + 3 < (n ++ atB ++ a).size := by omega
    have hfree : ∀ k, ∀ h : k < a.size, a[k] ≠ 32 := fun k hk e => hh ⟨k, hk, e⟩
    have y1 := cut_rest n a
    have y4 := cut_address n a
    rw [← sS] at y1
    rw [← sR] at y4
    exact top_main t n a (qB ++ n ++ atB ++ a) (n ++ atB ++ a) (n.size + 3) w h1 h2 h3 he h0
      (fun W => (has_any a W (by omega)).mono fun e w' ⟨h1, h2⟩ => ⟨h1.elim (fun x => absurd x.2 hh) (·.1), h2⟩)
      (fun W => string_any t n a W (by omega) (by omega) he)
      (fun W => last_at (n ++ atB ++ a) (n.size + 3) W (by omega) hlt (rest_blank n a hlt) (fun k hk h => rest_tail n a k hk h hfree))
      (by omega) (by omega) (by omega) hlt (by omega) (cut_head n a) y1 (cut_at n a) (cut_name n a) y4
  · exact top_early t n a w ht hn ha h
end Go.Proofs.Qxb6001702aMods
