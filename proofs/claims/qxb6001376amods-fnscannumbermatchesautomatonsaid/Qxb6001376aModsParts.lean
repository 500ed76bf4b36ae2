/-
  Parts shared by the walks of this seat: rows of integers that came in, a row being filled, what 'zzBytes' and 'zzClone' do.
-/
import Derived.Test.Qxb6001376aModsRows
import Derived.WalkKit
import Derived.WalkSpells
import Derived.WalkLawsBesides
import Derived.ProofKit
import Derived.Below
namespace Go.Proofs.Qxb6001376aMods
open Go.RowKit
set_option linter.unusedVariables false

/-- What the walk is told of a slice of integers: nil, or a row of 'cap' cells, the numbers 'zs'. -/
def IsRow (k : IntKind) (w : World) (a : Option Addr) (len cap : Nat) (zs : List Int) : Prop :=
  (a = none ∧ len = 0 ∧ cap = 0 ∧ zs = []) ∨
  ∃ x, a = some x ∧ len ≤ cap ∧ cap ≤ maxLen ∧ zs.length = cap ∧ (∀ i, i < zs.length → w.cell? (x.add i) = some (.int k (zs.getD i 0))) ∧ ∀ n ∈ zs, (Lit.int k n).wf = true

/-- A row of n cells whose first k hold the first k numbers of zs, the rest nought. -/
def fillc (q : IntKind) (zs : List Int) (k n : Nat) : Array Value := ((zs.take k).map (Value.int q) ++ List.replicate (n - k) (Value.int q 0)).toArray

theorem fillc_size (q : IntKind) (zs : List Int) (k n : Nat) (hk : k ≤ n) (hz : k ≤ zs.length) : (fillc q zs k n).size = n := by
  simp [fillc]; omega

theorem fillc_set (q : IntKind) (zs : List Int) (k n : Nat) (hk : k < n) (hz : k < zs.length) :
    (fillc q zs k n).setIfInBounds k (.int q (zs.getD k 0)) = fillc q zs (k + 1) n := by
  unfold fillc
  apply Array.ext'
  simp only [Array.toList_setIfInBounds]
  rw [List.take_succ_eq_append_getElem hz, List.map_append]
  obtain ⟨m, hm⟩ : ∃ m, n - k = m + 1 := ⟨n - k - 1, by omega⟩
  have hm' : n - (k + 1) = m := by omega
  rw [hm, hm', List.replicate_succ]
  rw [List.set_append_right _ _ (by simp; omega)]
  have : k - ((zs.take k).map (Value.int q)).length = 0 := by simp; omega
  rw [this]
  simp only [List.set_cons_zero, List.map_cons, List.map_nil, List.append_assoc, List.cons_append, List.nil_append, List.getD_eq_getElem?_getD, List.getElem?_eq_getElem hz, Option.getD_some]

theorem fillc_full (q : IntKind) (zs : List Int) (n : Nat) : fillc q zs n n = ((zs.take n).map (Value.int q)).toArray := by
  simp [fillc]

theorem made_fillc (q : IntKind) (zs : List Int) (n : Nat) : madeCells (Value.int q 0).cells (n * 1) = fillc q zs 0 n := by
  unfold madeCells fillc
  apply Array.ext'
  simp [Value.cells]
  apply List.ext_getElem
  · simp
  · intro i h1 h2
    simp [Nat.mod_one]

theorem Trym.info5 : (Trym.prog.info? 5).map (fun i => (i.zero, i.size, i.bytes)) = some (some (.int .u8 0), 1, 1) := by kernel_rfl

theorem run_make5 (w : World) (n : Nat) (hn : n ≤ 1048576) :
    (Instr.makeSlice 22 (.int .i64 n) (.int .i64 n)).run Trym.prog w = .ok (.slice (some ⟨w.heap.size, 0, none⟩) n n) (w.alloc (.cells (fillc .u8 [] 0 n) 5)) := by
  obtain ⟨i, hi, hz0, hz1, hz2⟩ := info_parts Trym.info5
  have h := run_make (P := Trym.prog) w 22 5 i (.int .u8 0) Trym.underlying22 hi hz0 .i64 .i64 n n (by omega) (by omega) (by rw [hz2]; omega) (by omega)
  rw [h, hz1]
  simp only [Int.toNat_natCast]
  rw [made_fillc .u8 [] n]


theorem bytes_any (a : Option Addr) (len cap : Nat) (x : Int) (w : World) (hl : len ≤ 9223372036854775807) :
    Calls Trym.prog 7 #[.slice a len cap, .int .i64 x] w fun e w' => e = .returned (.bool (decide (len ≤ 1048576))) ∧ w = w' := by
  by_cases h : len ≤ 1048576
  · go_enter Trym.func7, Trym.ntmps7
    go_wp2
    go_ret
    exact ⟨by simp [h], rfl⟩
  · go_enter Trym.func7, Trym.ntmps7
    go_wp2
    go_ret
    exact ⟨by simp [h], rfl⟩

theorem hid {p : Prop} (h : p) : Hid p := h

theorem copy_nil (w : World) : Calls Trym.prog 8 #[.slice none 0 0] w fun e w' => e = .returned (.slice none 0 0) ∧ w' = w := by
  have hnil := fun W => Lib.run_eql_slice_nil (P := Trym.prog) W 22 5 none 0 0 0 0 Trym.underlying22
  go_enter Trym.func8, Trym.ntmps8
  go_wp2
  go_ret
  exact ⟨rfl, rfl⟩

set_option maxHeartbeats 400000 in
theorem copy_row (b off len cap : Nat) (zs : List Int) (w : World) (hz : len ≤ zs.length) (hl : len ≤ 1048576) (h0 : 0 < len) (hb : b < w.heap.size)
    (hc : ∀ i, i < zs.length → w.cell? ⟨b, off + i, none⟩ = some (.int .u8 (zs.getD i 0))) :
    Calls Trym.prog 8 #[.slice (some ⟨b, off, none⟩) len cap] w fun e w' => e = .returned (.slice (some ⟨w.heap.size, 0, none⟩) len len) ∧ w' = w.alloc (.cells (fillc .u8 zs len len) 5) := by
  have hnil := fun W => Lib.run_eql_slice_nil (P := Trym.prog) W 22 5 (some ⟨b, off, none⟩) len cap 0 0 Trym.underlying22
  have hmk := fun W => run_make5 W len hl
  go_enter Trym.func8, Trym.ntmps8
  go_wp2
  go_loopw [4] (fun i wr => ∃ k : Nat, k ≤ len ∧ i = .int .i64 k ∧ wr = w.alloc (.cells (fillc .u8 zs k len) 5)) (fun i _ => len - (intOf i).toNat)
  case atStart => exact ⟨0, Nat.zero_le _, rfl, rfl⟩
  case round =>
    obtain ⟨k, hk, rfl, rfl⟩ := hrel
    by_cases hlt : k < len
    · have hck := hc k (by omega)
      have hset := fillc_set .u8 zs k len hlt (by omega)
      have hsz := fillc_size .u8 zs k len hk (by omega)
      go_wp2
      go_roundw
      case rel => exact ⟨k + 1, by omega, by go_num, by rw [← hset, List.getD_eq_getElem?_getD]⟩
      case measure => simp [intOf]; omega
    · have hk' : k = len := by omega
      subst hk'
      go_wp2
      go_ret
      exact ⟨rfl, rfl⟩

theorem copy_zero (x : Addr) (cap : Nat) (w : World) :
    Calls Trym.prog 8 #[.slice (some x) 0 cap] w fun e w' => e = .returned (.slice (some ⟨w.heap.size, 0, none⟩) 0 0) ∧ w' = w.alloc (.cells (fillc .u8 [] 0 0) 5) := by
  have hnil := fun W => Lib.run_eql_slice_nil (P := Trym.prog) W 22 5 (some x) 0 cap 0 0 Trym.underlying22
  have hmk : ∀ W : World, (Instr.makeSlice 22 (.int .i64 0) (.int .i64 0)).run Trym.prog W = .ok (.slice (some ⟨W.heap.size, 0, none⟩) 0 0) (W.alloc (.cells (fillc .u8 [] 0 0) 5)) := fun W => run_make5 W 0 (by omega)
  go_enter Trym.func8, Trym.ntmps8
  go_wp2
  refine wp_loop_rounds 1 ?_
  rw [rounds_succ]
  go_wp2
  go_ret
  exact ⟨rfl, rfl⟩

theorem add_none (b off i : Nat) : (⟨b, off, none⟩ : Addr).add i = ⟨b, off + i, none⟩ := by simp [Addr.add]

/-- An address whose cell is there bears no spot. -/
theorem plain_of_cells {k : IntKind} {w : World} {x : Addr} {zs : List Int} (h0 : 0 < zs.length) (hc : ∀ i, i < zs.length → w.cell? (x.add i) = some (.int k (zs.getD i 0))) :
    ∃ b off, x = ⟨b, off, none⟩ ∧ b < w.heap.size ∧ ∀ i, i < zs.length → w.cell? ⟨b, off + i, none⟩ = some (.int k (zs.getD i 0)) := by
  obtain ⟨b, off, spot⟩ := x
  have hspot : spot = none := by simpa [Addr.add] using World.cell?_spot (hc 0 h0)
  subst hspot
  have hc' : ∀ i, i < zs.length → w.cell? ⟨b, off + i, none⟩ = some (.int k (zs.getD i 0)) := fun i hi => by rw [← add_none]; exact hc i hi
  exact ⟨b, off, rfl, block_lt_of_cell (hc' 0 h0), hc'⟩

theorem isRow_fill (q : IntKind) (w : World) (t : TypeId) (len : Nat) (zs : List Int) (hl : len ≤ maxLen) (hz : len ≤ zs.length) (hw : ∀ n ∈ zs, (Lit.int q n).wf = true) :
    IsRow q (w.alloc (.cells (fillc q zs len len) t)) (some ⟨w.heap.size, 0, none⟩) len len (zs.take len) := by
  refine .inr ⟨_, rfl, Nat.le_refl _, hl, by simp; omega, fun i hi => ?_, fun n hn => hw n (List.mem_of_mem_take hn)⟩
  rw [add_none, World.cell?_alloc_at _ _ _ _ rfl, fillc_full]
  simp only [List.length_take] at hi
  have : i < zs.length := by omega
  have h2 : i < len := by omega
  simp [this, h2]

theorem copy_any (a : Option Addr) (len cap : Nat) (zs : List Int) (w : World) (h : IsRow .u8 w a len cap zs) (hl : len ≤ 1048576) :
    Calls Trym.prog 8 #[.slice a len cap] w fun e w' => ∃ a', e = .returned (.slice a' len len) ∧ IsRow .u8 w' a' len len (zs.take len) ∧ Below w.heap.size w w' := by
  have hm : len ≤ maxLen := by unfold maxLen; omega
  rcases h with ⟨rfl, rfl, rfl, rfl⟩ | ⟨x, rfl, hlc, hcm, hz, hc, hw⟩
  · refine (copy_nil w).mono ?_
    rintro e w' ⟨rfl, rfl⟩
    exact ⟨none, rfl, .inl ⟨rfl, rfl, rfl, rfl⟩, Below.refl _ _⟩
  · by_cases h0 : 0 < len
    · obtain ⟨b, off, rfl, hb, hc'⟩ := plain_of_cells (by omega) hc
      refine (copy_row b off len cap zs w (by omega) hl h0 hb hc').mono ?_
      rintro e w' ⟨rfl, rfl⟩
      exact ⟨_, rfl, isRow_fill .u8 w 5 len zs hm (by omega) hw, (Below.refl _ _).alloc (Nat.le_refl _) _⟩
    · obtain rfl : len = 0 := by omega
      refine (copy_zero x cap w).mono ?_
      rintro e w' ⟨rfl, rfl⟩
      exact ⟨_, rfl, isRow_fill .u8 w 5 0 zs hm (by omega) hw, (Below.refl _ _).alloc (Nat.le_refl _) _⟩
end Go.Proofs.Qxb6001376aMods
