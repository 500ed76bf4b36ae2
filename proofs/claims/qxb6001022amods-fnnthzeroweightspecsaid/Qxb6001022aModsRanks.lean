import Derived.Test.Qxb6001022aModsNth
namespace Go.Proofs.Qxb6001022aMods
open Go.RowKit
set_option linter.unusedVariables false

/-- The cells of n ranks whose first k weights are laid. -/
def rkc (W : List Int) (k n : Nat) : Array Value := ((List.range (n * 2)).map fun t => if t % 2 = 1 ∧ t / 2 < k then Value.int .u16 (W.getD (t / 2) 0) else Value.int .u16 0).toArray

theorem rkc_size (W : List Int) (k n : Nat) : (rkc W k n).size = n * 2 := by simp [rkc]
theorem rkc_at (W : List Int) (k n t : Nat) (h : t < n * 2) : (rkc W k n)[t]? = some (if t % 2 = 1 ∧ t / 2 < k then Value.int .u16 (W.getD (t / 2) 0) else Value.int .u16 0) := by
  simp [rkc, h]

theorem rkc_set (W : List Int) (k n : Nat) (h : k < n) : ((rkc W k n).setIfInBounds (k * 2) (.int .u16 0)).setIfInBounds (k * 2 + 1) (.int .u16 (W.getD k 0)) = rkc W (k + 1) n := by
  apply Array.ext_getElem?
  intro t
  by_cases ht : t < n * 2
  · rw [rkc_at W (k + 1) n t ht]
    by_cases h1 : t = k * 2 + 1
    · subst h1
      rw [Array.getElem?_setIfInBounds_self_of_lt (by simp [rkc_size]; omega), if_pos ⟨by omega, by omega⟩]
      rw [show (k * 2 + 1) / 2 = k from by omega]
    · rw [Array.getElem?_setIfInBounds_ne (by omega)]
      by_cases h2 : t = k * 2
      · subst h2
        rw [Array.getElem?_setIfInBounds_self_of_lt (by simp [rkc_size]; omega), if_neg (by omega)]
      · rw [Array.getElem?_setIfInBounds_ne (by omega), rkc_at W k n t ht]
        congr 1
        by_cases h3 : t % 2 = 1
        · by_cases h4 : t / 2 < k
          · rw [if_pos ⟨h3, h4⟩, if_pos ⟨h3, by omega⟩]
          · rw [if_neg (by omega), if_neg (by omega)]
        · rw [if_neg (by omega), if_neg (by omega)]
  · rw [Array.getElem?_eq_none (by simp [rkc_size]; omega), Array.getElem?_eq_none (by simp [rkc_size]; omega)]

theorem made_rkc (W : List Int) (n : Nat) : madeCells (Value.agg #[.int .u16 0, .int .u16 0]).cells (n * 2) = rkc W 0 n := by
  apply Array.ext_getElem?
  intro t
  by_cases ht : t < n * 2
  · rw [rkc_at W 0 n t ht, if_neg (by omega)]
    have h : t % 2 = 0 ∨ t % 2 = 1 := by omega
    rcases h with h | h <;> simp [madeCells, Value.cells, ht, h]
  · rw [Array.getElem?_eq_none (by simp [size_madeCells]; omega), Array.getElem?_eq_none (by simp [rkc_size]; omega)]

theorem Trym.info34 : (Trym.prog.info? 34).map (fun i => (i.zero, i.size, i.bytes)) = some (some (.agg #[.int .u16 0, .int .u16 0]), 2, 4) := by kernel_rfl

theorem run_make34 (w : World) (n : Nat) (hn : n ≤ 1048576) :
    (Instr.makeSlice 32 (.int .i64 n) (.int .i64 n)).run Trym.prog w = .ok (.slice (some ⟨w.heap.size, 0, none⟩) n n) (w.alloc (.cells (rkc [] 0 n) 34)) := by
  obtain ⟨i, hi, hz0, hz1, hz2⟩ := info_parts Trym.info34
  have h := run_make (P := Trym.prog) w 32 34 i (.agg #[.int .u16 0, .int .u16 0]) Trym.underlying32 hi hz0 .i64 .i64 n n (by omega) (by omega) (by rw [hz2]; omega) (by omega)
  rw [h, hz1]
  simp only [Int.toNat_natCast]
  rw [made_rkc [] n]

set_option maxHeartbeats 800000 in
theorem znth_any (b off n c b' off' n' c' : Nat) (W R : List Int) (nth : Nat) (w : World) (hW : W.length = n) (hR : R.length = n') (hn : n ≤ 1048576) (hn' : n' ≤ 1048576) (hb : b < w.heap.size) (hb' : b' < w.heap.size)
    (hcW : ∀ i, i < W.length → w.cell? ⟨b, off + i, none⟩ = some (.int .u16 (W.getD i 0))) (hcR : ∀ i, i < R.length → w.cell? ⟨b', off' + i, none⟩ = some (.int .i64 (R.getD i 0)))
    (ok : OkTo W R n') (hlt : nth < cz W R n') :
    Calls Trym.prog 9 #[.slice (some ⟨b, off, none⟩) n c, .slice (some ⟨b', off', none⟩) n' c', .int .i64 nth] w fun e w' => ∃ i : Nat, IsNth W R n' nth i ∧ e = .returned (.int .i64 i) ∧ Below w.heap.size w w' := by
  have hmk := fun W' => run_make34 W' n hn
  have HW := hid hcW
  have HR := hid hcR
  have OK := hid ok
  have LW := hid hW
  have LR := hid hR
  have HL := hid hlt
  have hcn := cz_le W R n'
  have hnth : nth ≤ 1048576 := by omega
  clear hcW hcR ok hW hR hlt hcn
  go_enter Trym.func9, Trym.ntmps9
  go_wp2
  go_loopw [8] (fun i wr => ∃ k : Nat, k ≤ n ∧ i = .int .i64 k ∧ wr = w.alloc (.cells (rkc W k n) 34)) (fun i _ => n - (intOf i).toNat)
  case atStart => exact ⟨0, Nat.zero_le _, rfl, by rw [show rkc [] 0 n = rkc W 0 n from by rw [← made_rkc [] n, made_rkc W n]]⟩
  case round =>
    obtain ⟨k, hk, rfl, rfl⟩ := hrel
    by_cases hlt : k < n
    · have hw := HW.out k (by rw [LW.out]; exact hlt)
      have HS := hid (rkc_set W k n hlt)
      have hsz := rkc_size W k n
      have hk0 : (rkc W k n)[k * 2]? = some (.int .u16 0) := by rw [rkc_at W k n _ (by omega), if_neg (by omega)]
      have hk1 : (rkc W k n)[k * 2 + 1]? = some (.int .u16 0) := by rw [rkc_at W k n _ (by omega), if_neg (by omega)]
      generalize W.getD k 0 = v at hw HS
      go_wp2
      go_roundw
      case rel => exact ⟨k + 1, by omega, by go_num, by rw [← HS.out]⟩
      case measure => simp [intOf]; omega
    · obtain rfl : k = n := by omega
      have C11 := hid (nth_any w.heap.size k k b' off' n' c' W R nth (w.alloc (.cells (rkc W k k) 34)) LW.out LR.out hn hn'
        (fun i hi => by
          rw [LW.out] at hi
          rw [World.cell?_alloc_at _ _ _ _ rfl, rkc_at W k k _ (by omega), if_pos ⟨by omega, by omega⟩, show (i * 2 + 1) / 2 = i from by omega])
        (fun i hi => by rw [World.cell?_alloc_past _ _ _ hb']; exact HR.out i hi) OK.out HL.out)
      clear HW HR OK HL hmk
      go_wp2_with (go_at_call 11; refine (C11.out).mono ?_)
      rintro e w1 ⟨i, hnth, rfl, rfl⟩
      have HN := hid hnth
      clear hnth
      go_wp2
      go_ret
      exact ⟨i, HN.out, rfl, (Below.refl _ _).alloc (Nat.le_refl _) _⟩
end Go.Proofs.Qxb6001022aMods
