import Derived.Test.Qxb6001022aModsRanks
namespace Go.Proofs.Qxb6001022aMods
open Go.RowKit
set_option linter.unusedVariables false

theorem below_then {B : Nat} {w w1 w2 : World} (h : Below B w w1) (hB : B ≤ w.heap.size) (k : Below w1.heap.size w1 w2) : Below B w w2 :=
  h.trans (k.mono (Nat.le_trans hB h.size))

/-- Both slices hold something. -/
def Two (w : World) (n n' : Nat) (W R : List Int) (a a' : Option Addr) (c c' : Nat) : Prop :=
  (Calls Trym.prog 6 #[.slice a n c] w fun e w' => ∃ g : Nat, e = .returned (.slice (some ⟨g, 0, none⟩) n n) ∧ g < w'.heap.size ∧ (∀ i, i < W.length → w'.cell? ⟨g, 0 + i, none⟩ = some (.int .u16 (W.getD i 0))) ∧ Below w.heap.size w w') ∧
  (∀ w1, Below w.heap.size w w1 → Calls Trym.prog 7 #[.slice a' n' c'] w1 fun e w' => ∃ g : Nat, e = .returned (.slice (some ⟨g, 0, none⟩) n' n') ∧ g < w'.heap.size ∧ (∀ i, i < R.length → w'.cell? ⟨g, 0 + i, none⟩ = some (.int .i64 (R.getD i 0))) ∧ Below w1.heap.size w1 w')

set_option maxHeartbeats 1600000 in
theorem top_two (a a' : Option Addr) (n c n' c' : Nat) (W R : List Int) (x : Int) (w : World) (hW : W.length = n) (hR : R.length = n')
    (hn : n ≤ 65536) (hn' : n' ≤ 65536) (hs : 2 * n + 8 * n' ≤ 1048576) (hx : -9223372036854775808 ≤ x ∧ x ≤ 9223372036854775807) (h2 : Two w n n' W R a a' c c') :
    Calls Trym.prog 3 #[.slice a n c, .slice a' n' c', .int .i64 x] w fun e w' => e = .returned (.bool true) ∧ Below w.heap.size w w' := by
  have C5 : Hid (Calls Trym.prog 5 #[.slice a n c, .slice a' n' c', .int .i64 x] w fun e w' => e = .returned (.bool true) ∧ w = w') :=
    (bytes_any a a' n c n' c' x w (by omega) (by omega)).mono fun e w' ⟨h1, h2⟩ => ⟨by rw [h1, decide_eq_true (by omega)], h2⟩
  have C6 := hid h2.1
  have C7 := hid h2.2
  have LW := hid hW
  have LR := hid hR
  clear h2 hW hR
  go_enter Trym.func3, Trym.ntmps3
  go_wp2_with (first | (go_at_call 5; refine (C5.out).mono ?_; rintro e w' ⟨rfl, rfl⟩) | (go_at_call 6; refine (C6.out).mono ?_))
  rintro e w1 ⟨g, rfl, hg, hcW, hbel1⟩
  have HW := hid hcW
  have B1 := hid hbel1
  clear hcW hbel1 C5 C6
  go_wp2_with (go_at_call 7; refine (C7.out w1 B1.out).mono ?_)
  rintro e w2 ⟨g', rfl, hg', hcR, hbel2⟩
  have HW2 : Hid (∀ i, i < W.length → w2.cell? ⟨g, 0 + i, none⟩ = some (.int .u16 (W.getD i 0))) := fun i hi => (hbel2.cell (p := ⟨g, 0 + i, none⟩) hg).trans (HW.out i hi)
  have hg2 : g < w2.heap.size := Nat.lt_of_lt_of_le hg hbel2.size
  have HR2 := hid hcR
  have B2 := hid (below_then B1.out (Nat.le_refl _) hbel2)
  clear hcR hbel2 B1 HW hg C7
  by_cases ok : OkTo W R n'
  · have OK := hid ok
    clear ok
    have hcn := cz_le W R n'
    go_wp2_with (go_at_call 8; refine (count_ok g 0 n n g' 0 n' n' W R _ LW.out LR.out (by omega) (by omega) HW2.out HR2.out OK.out).mono ?_)
    rintro e w3 ⟨rfl, rfl⟩
    by_cases hx0 : x < 0
    · generalize cz W R n' = q at hcn
      go_wp2
      go_ret
      exact ⟨rfl, B2.out⟩
    · by_cases hxq : x < (cz W R n' : Nat)
      · obtain ⟨m, rfl⟩ : ∃ m : Nat, x = m := ⟨x.toNat, by omega⟩
        have C9 := hid (znth_any g 0 n n g' 0 n' n' W R m w2 LW.out LR.out (by omega) (by omega) hg2 hg' HW2.out HR2.out OK.out (by omega))
        generalize cz W R n' = q at hcn hxq
        go_wp2_with (go_at_call 9; refine (C9.out).mono ?_)
        rintro e w3 ⟨i, ⟨hi, hzero, hci⟩, rfl, hbel3⟩
        have HW3 : Hid (∀ i, i < W.length → w3.cell? ⟨g, 0 + i, none⟩ = some (.int .u16 (W.getD i 0))) := fun i hi => (hbel3.cell (p := ⟨g, 0 + i, none⟩) hg2).trans (HW2.out i hi)
        have HR3 : Hid (∀ i, i < R.length → w3.cell? ⟨g', 0 + i, none⟩ = some (.int .i64 (R.getD i 0))) := fun i hi => (hbel3.cell (p := ⟨g', 0 + i, none⟩) hg').trans (HR2.out i hi)
        have B3 := hid (below_then B2.out (Nat.le_refl _) hbel3)
        have HC := hid hci
        clear hci hbel3 HW2 HR2 B2 C9
        have hri := HR3.out i (by rw [LR.out]; exact hi)
        have hrng := OK.out i hi
        rw [LW.out] at hrng
        have hwi := HW3.out (R.getD i 0).toNat (by rw [LW.out]; omega)
        rw [hzero] at hwi
        clear hzero
        generalize R.getD i 0 = r at hri hrng hwi
        simp only [Nat.zero_add] at hri hwi
        go_wp2
        go_loop [10, 11] (fun z t => ∃ k : Nat, k ≤ i ∧ t = .int .i64 k ∧ z = .int .i64 (cz W R k : Nat)) (fun _ t => i - (intOf t).toNat)
        case atStart => exact ⟨0, Nat.zero_le _, rfl, rfl⟩
        case round =>
          obtain ⟨k, hk, rfl, rfl⟩ := hrel
          have hle := cz_le W R k
          clear hri hwi hrng
          by_cases hlt : k < i
          · have hr := HR3.out k (by rw [LR.out]; omega)
            have hrng := OK.out k (by omega)
            rw [LW.out] at hrng
            have hw := HW3.out (R.getD k 0).toNat (by rw [LW.out]; omega)
            simp only [Nat.zero_add] at hr hw
            by_cases hz : W.getD (R.getD k 0).toNat 0 = 0
            · have HS := hid (cz_hit hz)
              rw [hz] at hw
              clear hz
              generalize R.getD k 0 = r at *
              go_wp2
              go_round
              case rel => exact ⟨k + 1, by omega, by go_num, by rw [HS.out]; go_num⟩
              case measure => simp [intOf]; omega
            · have HS := hid (cz_miss hz)
              generalize R.getD k 0 = r at *
              have hz' : (W.getD r.toNat 0 == 0) = false := by simpa using hz
              clear hz
              generalize W.getD r.toNat 0 = v at *
              go_wp2
              go_round
              case rel => exact ⟨k + 1, by omega, by go_num, by rw [HS.out]⟩
              case measure => simp [intOf]; omega
          · obtain rfl : k = i := by omega
            have e : ((cz W R k : Nat) : Int) = (m : Int) := by rw [HC.out]
            go_wp2
            go_ret
            exact ⟨rfl, B3.out⟩
      · generalize cz W R n' = q at hcn hxq
        go_wp2
        go_ret
        exact ⟨rfl, B2.out⟩
  · have BAD := hid ok
    clear ok
    go_wp2_with (go_at_call 8; refine (count_bad g 0 n n g' 0 n' n' W R _ LW.out LR.out (by omega) (by omega) HW2.out HR2.out BAD.out).mono ?_)
    rintro e w3 ⟨rfl, rfl⟩
    go_wp2
    go_ret
    exact ⟨rfl, B2.out⟩

set_option maxHeartbeats 800000 in
/-- No entries. -/
theorem top_none (a a' : Option Addr) (n c c' : Nat) (zW zR : List Int) (x : Int) (w : World) (rW : IsRow .u16 w a n c zW) (rR : IsRow .i64 w a' 0 c' zR)
    (hn : n ≤ 65536) (hs : 2 * n ≤ 1048576) (C7 : ∀ w1, Below w.heap.size w w1 → IsRow .i64 w1 a' 0 c' zR) :
    Calls Trym.prog 3 #[.slice a n c, .slice a' 0 c', .int .i64 x] w fun e w' => e = .returned (.bool true) ∧ Below w.heap.size w w' := by
  have C5 : Hid (Calls Trym.prog 5 #[.slice a n c, .slice a' 0 c', .int .i64 x] w fun e w' => e = .returned (.bool true) ∧ w = w') :=
    (bytes_any a a' n c 0 c' x w (by omega) (by omega)).mono fun e w' ⟨h1, h2⟩ => ⟨by rw [h1, decide_eq_true (by omega)], h2⟩
  have C6 := hid (copyW_any a n c zW w rW (by omega))
  have D7 : Hid (∀ w1, Below w.heap.size w w1 → Calls Trym.prog 7 #[.slice a' 0 c'] w1 fun e w' => ∃ b', e = .returned (.slice b' 0 0) ∧ Below w1.heap.size w1 w') :=
    fun w1 h1 => (copyR_any a' 0 c' zR w1 (C7 w1 h1) (by omega)).mono fun e w' ⟨b', h1, _, h3⟩ => ⟨b', h1, h3⟩
  clear C7 rW rR
  have hpos : ¬ x < 0 → (0 : Int) ≤ x := by omega
  go_enter Trym.func3, Trym.ntmps3
  go_wp2_with (first | (go_at_call 5; refine (C5.out).mono ?_; rintro e w' ⟨rfl, rfl⟩) | (go_at_call 6; refine (C6.out).mono ?_))
  rintro e w1 ⟨b1, rfl, _, hbel1⟩
  have B1 := hid hbel1
  clear hbel1 C5 C6
  go_wp2_with (go_at_call 7; refine (D7.out w1 B1.out).mono ?_)
  rintro e w2 ⟨b2, rfl, hbel2⟩
  have B2 := hid (below_then B1.out (Nat.le_refl _) hbel2)
  clear hbel2 B1 D7
  go_wp2_with (go_at_call 8; refine (count_none b1 b2 n n 0 w2).mono ?_)
  rintro e w3 ⟨rfl, rfl⟩
  by_cases hx : x < 0
  · go_wp2
    go_ret
    exact ⟨rfl, B2.out⟩
  · go_wp2
    go_ret
    exact ⟨rfl, B2.out⟩

set_option maxHeartbeats 800000 in
/-- No weights, an entry. -/
theorem top_bare (a a' : Option Addr) (c n' c' : Nat) (zW : List Int) (R : List Int) (x : Int) (w : World) (rW : IsRow .u16 w a 0 c zW) (hR : R.length = n') (h0 : 0 < n')
    (hn' : n' ≤ 65536) (hs : 8 * n' ≤ 1048576)
    (h7 : ∀ w1, Below w.heap.size w w1 → Calls Trym.prog 7 #[.slice a' n' c'] w1 fun e w' => ∃ g : Nat, e = .returned (.slice (some ⟨g, 0, none⟩) n' n') ∧ g < w'.heap.size ∧ (∀ i, i < R.length → w'.cell? ⟨g, 0 + i, none⟩ = some (.int .i64 (R.getD i 0))) ∧ Below w1.heap.size w1 w') :
    Calls Trym.prog 3 #[.slice a 0 c, .slice a' n' c', .int .i64 x] w fun e w' => e = .returned (.bool true) ∧ Below w.heap.size w w' := by
  have C5 : Hid (Calls Trym.prog 5 #[.slice a 0 c, .slice a' n' c', .int .i64 x] w fun e w' => e = .returned (.bool true) ∧ w = w') :=
    (bytes_any a a' 0 c n' c' x w (by omega) (by omega)).mono fun e w' ⟨h1, h2⟩ => ⟨by rw [h1, decide_eq_true (by omega)], h2⟩
  have C6 := hid (copyW_any a 0 c zW w rW (by omega))
  have D7 := hid h7
  have LR := hid hR
  clear h7 rW hR
  go_enter Trym.func3, Trym.ntmps3
  go_wp2_with (first | (go_at_call 5; refine (C5.out).mono ?_; rintro e w' ⟨rfl, rfl⟩) | (go_at_call 6; refine (C6.out).mono ?_))
  rintro e w1 ⟨b1, rfl, _, hbel1⟩
  have B1 := hid hbel1
  clear hbel1 C5 C6
  go_wp2_with (go_at_call 7; refine (D7.out w1 B1.out).mono ?_)
  rintro e w2 ⟨g, rfl, _, hc, hbel2⟩
  have B2 := hid (below_then B1.out (Nat.le_refl _) hbel2)
  have h00 := hc 0 (by rw [LR.out]; exact h0)
  have H0 := hid h00
  clear hbel2 B1 D7 hc h00
  go_wp2_with (go_at_call 8; refine (count_noweights b1 0 g 0 n' n' _ w2 h0 (by omega) H0.out).mono ?_)
  rintro e w3 ⟨rfl, rfl⟩
  go_wp2
  go_ret
  exact ⟨rfl, B2.out⟩

set_option maxHeartbeats 800000 in
/-- Too long. -/
theorem top_long (a a' : Option Addr) (n c n' c' : Nat) (x : Int) (w : World) (hm : n ≤ 9223372036854775807) (hm' : n' ≤ 9223372036854775807)
    (h : ¬ (n ≤ 65536 ∧ n' ≤ 65536 ∧ 2 * n + 8 * n' ≤ 1048576)) :
    Calls Trym.prog 3 #[.slice a n c, .slice a' n' c', .int .i64 x] w fun e w' => e = .returned (.bool true) ∧ Below w.heap.size w w' := by
  by_cases h1 : n + n' ≤ 1048576
  · have C5 : Hid (Calls Trym.prog 5 #[.slice a n c, .slice a' n' c', .int .i64 x] w fun e w' => e = .returned (.bool true) ∧ w = w') :=
      (bytes_any a a' n c n' c' x w (by omega) (by omega)).mono fun e w' ⟨h1, h2⟩ => ⟨by rw [h1, decide_eq_true (by omega)], h2⟩
    by_cases h2 : n ≤ 65536
    · by_cases h3 : n' ≤ 65536
      · exact absurd ⟨h2, h3, by omega⟩ h
      · clear h
        go_enter Trym.func3, Trym.ntmps3
        go_wp2_with (go_at_call 5; refine (C5.out).mono ?_; rintro e w' ⟨rfl, rfl⟩)
        go_ret
        exact ⟨rfl, Below.refl _ _⟩
    · clear h
      go_enter Trym.func3, Trym.ntmps3
      go_wp2_with (go_at_call 5; refine (C5.out).mono ?_; rintro e w' ⟨rfl, rfl⟩)
      go_ret
      exact ⟨rfl, Below.refl _ _⟩
  · have C5 : Hid (Calls Trym.prog 5 #[.slice a n c, .slice a' n' c', .int .i64 x] w fun e w' => e = .returned (.bool false) ∧ w = w') :=
      (bytes_any a a' n c n' c' x w (by omega) (by omega)).mono fun e w' ⟨h1, h2⟩ => ⟨by rw [h1, decide_eq_false (by omega)], h2⟩
    clear h
    go_enter Trym.func3, Trym.ntmps3
    go_wp2_with (go_at_call 5; refine (C5.out).mono ?_; rintro e w' ⟨rfl, rfl⟩)
    go_ret
    exact ⟨rfl, Below.refl _ _⟩

/-- A row that was there is there in a later world. -/
theorem isRow_later {q : IntKind} {w w1 : World} {a : Option Addr} {n c : Nat} {zs : List Int} (h : IsRow q w a n c zs) (hb : Below w.heap.size w w1) : IsRow q w1 a n c zs := by
  rcases h with h | ⟨x, rfl, h1, h2, h3, h4, h5⟩
  · exact .inl h
  · exact .inr ⟨x, rfl, h1, h2, h3, fun i hi => (hb.cell (block_lt_of_cell (h4 i hi))).trans (h4 i hi), h5⟩

theorem fill_cells {q : IntKind} {w : World} {t : TypeId} {len : Nat} {zs : List Int} (hz : len ≤ zs.length) (i : Nat) (hi : i < (zs.take len).length) :
    (w.alloc (.cells (fillc q zs len len) t)).cell? ⟨w.heap.size, 0 + i, none⟩ = some (.int q ((zs.take len).getD i 0)) := by
  rw [World.cell?_alloc_at _ _ _ _ rfl, fillc_full]
  simp only [List.length_take] at hi
  have : i < zs.length := by omega
  have h2 : i < len := by omega
  simp [this, h2]

theorem copyW_some {a : Option Addr} {n c : Nat} {zs : List Int} {w : World} (h : IsRow .u16 w a n c zs) (h0 : 0 < n) (hn : n ≤ 1048576) :
    Calls Trym.prog 6 #[.slice a n c] w fun e w' => ∃ g : Nat, e = .returned (.slice (some ⟨g, 0, none⟩) n n) ∧ g < w'.heap.size ∧ (∀ i, i < (zs.take n).length → w'.cell? ⟨g, 0 + i, none⟩ = some (.int .u16 ((zs.take n).getD i 0))) ∧ Below w.heap.size w w' := by
  rcases h with ⟨_, rfl, _, _⟩ | ⟨x, rfl, h1, h2, h3, h4, h5⟩
  · omega
  · obtain ⟨b, off, rfl, hb, hc'⟩ := plain_of_cells (by omega) h4
    refine (copyW_row b off n c zs w (by omega) hn h0 hb hc').mono ?_
    rintro e w' ⟨rfl, rfl⟩
    exact ⟨w.heap.size, rfl, by simp, fun i hi => fill_cells (by omega) i hi, (Below.refl _ _).alloc (Nat.le_refl _) _⟩

theorem copyR_some {a : Option Addr} {n c : Nat} {zs : List Int} {w : World} (h : IsRow .i64 w a n c zs) (h0 : 0 < n) (hn : n ≤ 1048576) :
    Calls Trym.prog 7 #[.slice a n c] w fun e w' => ∃ g : Nat, e = .returned (.slice (some ⟨g, 0, none⟩) n n) ∧ g < w'.heap.size ∧ (∀ i, i < (zs.take n).length → w'.cell? ⟨g, 0 + i, none⟩ = some (.int .i64 ((zs.take n).getD i 0))) ∧ Below w.heap.size w w' := by
  rcases h with ⟨_, rfl, _, _⟩ | ⟨x, rfl, h1, h2, h3, h4, h5⟩
  · omega
  · obtain ⟨b, off, rfl, hb, hc'⟩ := plain_of_cells (by omega) h4
    refine (copyR_row b off n c zs w (by omega) hn h0 hb hc').mono ?_
    rintro e w' ⟨rfl, rfl⟩
    exact ⟨w.heap.size, rfl, by simp, fun i hi => fill_cells (by omega) i hi, (Below.refl _ _).alloc (Nat.le_refl _) _⟩

theorem isRow_len {q : IntKind} {w : World} {a : Option Addr} {n c : Nat} {zs : List Int} (h : IsRow q w a n c zs) : n ≤ 9223372036854775807 ∧ n ≤ zs.length := by
  rcases h with ⟨_, rfl, _, _⟩ | ⟨x, _, h1, h2, h3, _⟩
  · exact ⟨by omega, by omega⟩
  · unfold maxLen at h2; exact ⟨by omega, by omega⟩

theorem top_any (a a' : Option Addr) (n c n' c' : Nat) (zW zR : List Int) (x : Int) (w : World) (hx : -9223372036854775808 ≤ x ∧ x ≤ 9223372036854775807) (rW : IsRow .u16 w a n c zW) (rR : IsRow .i64 w a' n' c' zR) :
    Calls Trym.prog 3 #[.slice a n c, .slice a' n' c', .int .i64 x] w fun e w' => e = .returned (.bool true) ∧ Below w.heap.size w w' := by
  have lW := isRow_len rW
  have lR := isRow_len rR
  by_cases h : n ≤ 65536 ∧ n' ≤ 65536 ∧ 2 * n + 8 * n' ≤ 1048576
  · by_cases h0 : 0 < n'
    · have c7 := fun w1 (hb : Below w.heap.size w w1) => copyR_some (isRow_later rR hb) h0 (by omega)
      have hRl : (zR.take n').length = n' := by simp; omega
      by_cases h1 : 0 < n
      · exact top_two a a' n c n' c' (zW.take n) (zR.take n') x w (by simp; omega) hRl h.1 h.2.1 h.2.2 hx ⟨copyW_some rW h1 (by omega), c7⟩
      · obtain rfl : n = 0 := by omega
        exact top_bare a a' c n' c' zW (zR.take n') x w rW hRl h0 h.2.1 (by omega) c7
    · obtain rfl : n' = 0 := by omega
      exact top_none a a' n c c' zW zR x w rW rR h.1 (by omega) fun w1 hb => isRow_later rR hb
  · exact top_long a a' n c n' c' x w lW.1 lR.1 h
end Go.Proofs.Qxb6001022aMods
