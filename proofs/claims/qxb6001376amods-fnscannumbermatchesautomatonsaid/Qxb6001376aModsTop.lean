import Derived.Test.Qxb6001376aModsScan
import Derived.OpenShut
namespace Go.Proofs.Qxb6001376aMods
open Go.RowKit
set_option linter.unusedVariables false

set_option maxRecDepth 10000 in
/-- At or past the end: no byte is read. -/
theorem scan_past (a : Option Addr) (n c : Nat) (bs : List Int) (i : Nat) (w : World) (hl : bs.length = n) (hn : n ≤ 1048576) (hi : n ≤ i) (hm : i ≤ 9223372036854775807) :
    Calls Trym.prog 17 #[.slice a n c, .int .i64 i] w fun e w' => e = .returned (outV (M bs 0 i)) ∧ w = w' := by
  have e : M bs 0 i = (0, false) := by rw [M_stop bs 0 i (by omega)]; rfl
  rw [e]
  clear e hl
  go_enter Trym.func17, Trym.ntmps17
  go_wp2
  go_ret2
  exact ⟨rfl, rfl⟩

theorem zscan_of (a : Option Addr) (n c : Nat) (r : Int × Bool) (i : Nat) (w : World)
    (h : Calls Trym.prog 17 #[.slice a n c, .int .i64 i] w fun e w' => e = .returned (outV r) ∧ w = w') :
    Calls Trym.prog 9 #[.slice a n c, .int .i64 i] w fun e w' => e = .returned (outV r) ∧ w = w' := by
  have H := hid h
  clear h
  unfold outV at *
  go_enter Trym.func9, Trym.ntmps9
  go_wp2_with (go_at_call 17; refine (H.out).mono ?_; rintro e w' ⟨rfl, rfl⟩)
  go_ret2
  exact ⟨rfl, rfl⟩

set_option maxHeartbeats 800000 in
/-- Both answers are the model's: the law answers true. -/
theorem top_of (a a1 : Option Addr) (n c : Nat) (r : Int × Bool) (i : Nat) (w : World) (hn : n ≤ 1048576) (hm : i ≤ 9223372036854775807)
    (h8 : Calls Trym.prog 8 #[.slice a n c] w fun e w' => e = .returned (.slice a1 n n) ∧ Below w.heap.size w w' ∧
      (Calls Trym.prog 9 #[.slice a1 n n, .int .i64 i] w' fun e w'' => e = .returned (outV r) ∧ w' = w'') ∧
      (Calls Trym.prog 10 #[.slice a1 n n, .int .i64 i] w' fun e w'' => e = .returned (outV r) ∧ w' = w'')) :
    Calls Trym.prog 3 #[.slice a n c, .int .i64 i] w fun e w' => e = .returned (.bool true) ∧ Below w.heap.size w w' := by
  have C7 : Hid (Calls Trym.prog 7 #[.slice a n c, .int .i64 i] w fun e w' => e = .returned (.bool true) ∧ w = w') :=
    (bytes_any a n c i w (by omega)).mono fun e w' ⟨h1, h2⟩ => ⟨by rw [h1, decide_eq_true hn], h2⟩
  have C8 := hid h8
  clear h8
  obtain ⟨x, y⟩ := r
  unfold outV at *
  go_enter Trym.func3, Trym.ntmps3
  go_wp2_with (first | (go_at_call 7; refine (C7.out).mono ?_; rintro e w' ⟨rfl, rfl⟩) | (go_at_call 8; refine (C8.out).mono ?_))
  rintro e w1 ⟨rfl, hbel, h9, h10⟩
  have C9 := hid h9
  have C10 := hid h10
  have B := hid hbel
  clear h9 h10 hbel C7 C8
  go_wp2_with (first | (go_at_call 9; refine (C9.out).mono ?_; rintro e w' ⟨rfl, rfl⟩) | (go_at_call 10; refine (C10.out).mono ?_; rintro e w' ⟨rfl, rfl⟩))
  go_ret
  exact ⟨rfl, B.out⟩

theorem bytes_of_wf {zs : List Int} (h : ∀ n ∈ zs, (Lit.int .u8 n).wf = true) : Bytes zs := fun i => by
  rw [List.getD_eq_getElem?_getD]; exact range_u8 h i

theorem isRow_len {q : IntKind} {w : World} {a : Option Addr} {n c : Nat} {zs : List Int} (h : IsRow q w a n c zs) : n ≤ 9223372036854775807 ∧ n ≤ zs.length := by
  rcases h with ⟨_, rfl, _, _⟩ | ⟨x, _, h1, h2, h3, _⟩
  · exact ⟨by omega, by omega⟩
  · unfold maxLen at h2; exact ⟨by omega, by omega⟩

/-- The clone's value is fixed by whether the slice is nil. -/
theorem clone_fix (a : Option Addr) (n c : Nat) (zs : List Int) (w : World) (h : IsRow .u8 w a n c zs) (hn : n ≤ 1048576) :
    ∃ a1, Calls Trym.prog 8 #[.slice a n c] w fun e w' => e = .returned (.slice a1 n n) ∧ IsRow .u8 w' a1 n n (zs.take n) ∧ Below w.heap.size w w' := by
  have hm : n ≤ maxLen := by unfold maxLen; omega
  rcases h with ⟨rfl, rfl, rfl, rfl⟩ | ⟨x, rfl, hlc, hcm, hz, hc, hw⟩
  · refine ⟨none, (copy_nil w).mono ?_⟩
    rintro e w' ⟨rfl, rfl⟩
    exact ⟨rfl, .inl ⟨rfl, rfl, rfl, rfl⟩, Below.refl _ _⟩
  · by_cases h0 : 0 < n
    · obtain ⟨b, off, rfl, hb, hc'⟩ := plain_of_cells (by omega) hc
      refine ⟨some ⟨w.heap.size, 0, none⟩, (copy_row b off n c zs w (by omega) hn h0 hb hc').mono ?_⟩
      rintro e w' ⟨rfl, rfl⟩
      exact ⟨rfl, isRow_fill .u8 w 5 n zs hm (by omega) hw, (Below.refl _ _).alloc (Nat.le_refl _) _⟩
    · obtain rfl : n = 0 := by omega
      refine ⟨some ⟨w.heap.size, 0, none⟩, (copy_zero x c w).mono ?_⟩
      rintro e w' ⟨rfl, rfl⟩
      exact ⟨rfl, isRow_fill .u8 w 5 0 zs hm (by omega) hw, (Below.refl _ _).alloc (Nat.le_refl _) _⟩

theorem top_any (a : Option Addr) (n c : Nat) (zs : List Int) (x : Int) (w : World) (hx : -9223372036854775808 ≤ x ∧ x ≤ 9223372036854775807) (h : IsRow .u8 w a n c zs) :
    Calls Trym.prog 3 #[.slice a n c, .int .i64 x] w fun e w' => e = .returned (.bool true) ∧ Below w.heap.size w w' := by
  have hl := isRow_len h
  by_cases hn : n ≤ 1048576
  · by_cases hx0 : x < 0
    · have C7 : Hid (Calls Trym.prog 7 #[.slice a n c, .int .i64 x] w fun e w' => e = .returned (.bool true) ∧ w = w') :=
        (bytes_any a n c x w (by omega)).mono fun e w' ⟨h1, h2⟩ => ⟨by rw [h1, decide_eq_true hn], h2⟩
      clear h hl
      go_enter Trym.func3, Trym.ntmps3
      go_wp2_with (go_at_call 7; refine (C7.out).mono ?_; rintro e w' ⟨rfl, rfl⟩)
      go_ret
      exact ⟨rfl, Below.refl _ _⟩
    · obtain ⟨i, rfl⟩ : ∃ i : Nat, x = i := ⟨x.toNat, by omega⟩
      have hzl : (zs.take n).length = n := by simp; omega
      obtain ⟨a1, h8⟩ := clone_fix a n c zs w h hn
      refine top_of a a1 n c (M (zs.take n) 0 i) i w hn (by omega) (h8.mono ?_)
      rintro e w' ⟨rfl, hrow, hbel⟩
      refine ⟨rfl, hbel, ?_⟩
      by_cases hin : i < n
      · rcases hrow with ⟨_, rfl, _, _⟩ | ⟨y, rfl, _, _, _, hc, hw⟩
        · omega
        · obtain ⟨b, off, rfl, hb, hc'⟩ := plain_of_cells (by omega) hc
          exact ⟨zscan_of _ n n _ i w' (scan_in b off n n (zs.take n) i w' hzl hn (bytes_of_wf hw) hin hc'), model_in b off n n (zs.take n) i w' hzl hn (bytes_of_wf hw) hin hc'⟩
      · exact ⟨zscan_of _ n n _ i w' (scan_past a1 n n (zs.take n) i w' hzl hn (by omega) (by omega)), model_past a1 n n (zs.take n) i w' hzl hn (by omega) (by omega)⟩
  · have C7 : Hid (Calls Trym.prog 7 #[.slice a n c, .int .i64 x] w fun e w' => e = .returned (.bool false) ∧ w = w') :=
      (bytes_any a n c x w hl.1).mono fun e w' ⟨h1, h2⟩ => ⟨by rw [h1, decide_eq_false hn], h2⟩
    clear h hl
    go_enter Trym.func3, Trym.ntmps3
    go_wp2_with (go_at_call 7; refine (C7.out).mono ?_; rintro e w' ⟨rfl, rfl⟩)
    go_ret
    exact ⟨rfl, Below.refl _ _⟩
end Go.Proofs.Qxb6001376aMods
