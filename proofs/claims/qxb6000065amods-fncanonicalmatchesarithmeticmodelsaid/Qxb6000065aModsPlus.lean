import Derived.Test.Qxb6000065aModsParts
import Derived.Test.Qxb6000065aModsPlain
import Derived.Deep.WholeRow
namespace Go.Proofs.Qxb6000065aMods
open Go.RowKit
set_option linter.unusedVariables false

def arr (ys : List Int) : Array Value := (ys.map (Value.int .u8)).toArray

theorem Trym.info25 : (Trym.prog.info? 25).map (fun i => (i.zero, i.size)) = some (some (.agg (fillc .u8 [] 0 32)), 32) := by kernel_rfl

theorem arr_at (ys : List Int) (j : Nat) (h : j < ys.length) : (arr ys)[j]? = some (.int .u8 (ys.getD j 0)) := by
  simp [arr, h]
theorem arr_size (ys : List Int) : (arr ys).size = ys.length := by simp [arr]

theorem arr_one (ys : List Int) : (arr ys).all (·.oneCell') = true := by
  simp [arr, Value.oneCell']
theorem heap_alloc_if (w : World) (o : Obj) (i : Nat) : (w.alloc o).heap[i]? = if i = w.heap.size then some o else w.heap[i]? := by
  show (w.heap.push o)[i]? = _
  rw [Array.getElem?_push]
theorem below_setRow' {B : Nat} {a w : World} (h : Below B a w) {g : Nat} (hg : B ≤ g) (cs : Array Value) : Below B a (w.setRow g cs) :=
  h.trans ⟨rfl, rfl, rfl, by simp, fun k hk => setRow_other w g k cs (by omega)⟩
theorem Trym.size25 : (Trym.prog.info? 25).map (·.size) = some 32 := by kernel_rfl

theorem wraps_i64' (n : Int) (h₀ : 0 ≤ n) (h₁ : n < 2 ^ 62) : IntKind.i64.wrap n = n := by rw [IntKind.wrap_i64]; omega
theorem i64_and255 (x : Int) (h₀ : 0 ≤ x) (h₁ : x < 2 ^ 62) : bits .and .i64 x 255 = x % 256 := bits_mask .i64 62 (by decide) wraps_i64' 8 (by decide) x h₀ h₁
theorem u8_and127 (x : Int) (h₀ : 0 ≤ x) (h₁ : x ≤ 255) : bits .and .u8 x 127 = x % 128 := bits_mask .u8 8 (by decide) wraps_u8 7 (by decide) x h₀ (by omega)

set_option maxHeartbeats 400000 in
theorem plus_any (ys : List Int) (k : Int) (w : World) (hy : ys.length = 32) (hb : Bytes ys) (h0 : 0 ≤ k) (h1 : k ≤ 255) :
    Calls Trym.prog 15 #[.agg (arr ys), .int .i64 k] w fun e w' => e = .returned (.agg (arr (plusL ys k))) ∧ Below w.heap.size w w' := by
  go_enter Trym.func15, Trym.ntmps15
  go_wp2
  go_loopw [6, 7] (fun cr i wr => ∃ j : Nat, j ≤ 32 ∧ i = .int .i64 j ∧ cr = .int .i64 (carryL (ys.take j) k) ∧
      wr = ((w.alloc (.cells (arr ys) 25)).alloc (.cells (fillc .u8 [] 0 32) 25)).alloc (.cells (fillc .u8 (plusL ys k) j 32) 25)) (fun _ i _ => 32 - (intOf i).toNat)
  case atStart => exact ⟨0, Nat.zero_le _, rfl, rfl, rfl⟩
  case round =>
    obtain ⟨j, hj, rfl, rfl, rfl⟩ := hrel
    by_cases hlt : j < 32
    · have hcr := carryL_range ys k hb h0 h1 j (by omega)
      have hyr := hb j
      have hcs := carryL_snoc ys k j (by omega)
      have hpa := plusL_at ys k j (by omega)
      have hset := fillc_set .u8 (plusL ys k) j 32 hlt (by rw [plusL_length]; omega)
      have hsz := fillc_size .u8 (plusL ys k) j 32 hj (by rw [plusL_length]; omega)
      have hcell := arr_at ys j (by omega)
      rw [hpa] at hset
      generalize ys.getD j 0 = y at *
      generalize carryL (ys.take j) k = c at *
      generalize fillc .u8 (plusL ys k) j 32 = F at *
      have HS : Hid (F.setIfInBounds j (Value.int IntKind.u8 ((y + c) % 256)) = fillc IntKind.u8 (plusL ys k) (j + 1) 32) := hset
      have HC : Hid (carryL (List.take (j + 1) ys) k = (y + c) / 256) := hcs
      have hand := i64_and255 (y + c) (by omega) (by omega)
      clear hpa hset hcs
      go_wp2
      go_roundw
      case rel => exact ⟨j + 1, by omega, by go_num, by rw [HC.out], by rw [← HS.out]⟩
      case measure => simp [intOf]; omega
    · obtain rfl : j = 32 := by omega
      have hfull : fillc .u8 (plusL ys k) 32 32 = arr (plusL ys k) := by rw [fillc_full, List.take_of_length_le (by rw [plusL_length]; omega)]; rfl
      rw [hfull]
      have hpl : (arr (plusL ys k)).size = 32 := by rw [arr_size, plusL_length, hy]
      have hi : (Trym.prog.info? 25).map (·.size) = some (arr (plusL ys k)).size := by rw [hpl]; exact Trym.size25
      have hone := arr_one (plusL ys k)
      have hg1 : (((w.alloc (.cells (arr ys) 25)).alloc (.cells (fillc .u8 [] 0 32) 25)).alloc (.cells (arr (plusL ys k)) 25)).heap[w.heap.size + 1 + 1]? = some (.cells (arr (plusL ys k)) 25 (0, 0)) := by rw [heap_alloc_if, if_pos (by simp)]
      have hg2 : (((w.alloc (.cells (arr ys) 25)).alloc (.cells (fillc .u8 [] 0 32) 25)).alloc (.cells (arr (plusL ys k)) 25)).heap[w.heap.size + 1]? = some (.cells (fillc .u8 [] 0 32) 25 (0, 0)) := by rw [heap_alloc_if, if_neg (by simp), heap_alloc_if, if_pos (by simp)]
      have hold : (fillc .u8 [] 0 32).size = (arr (plusL ys k)).size := by rw [hpl]; rfl
      clear hfull
      have H1 : Hid _ := hg1
      have H2 : Hid _ := hg2
      have H3 : Hid _ := hi
      have H4 : Hid _ := hold
      have H5 : Hid _ := hone
      clear hg1 hg2 hi hold hone hpl
      go_wp2_with (first | (refine wpList_load_row rfl 25 _ rfl _ rfl 25 _ (0, 0) _ H1.out Trym.underlying25 rfl H3.out ?_) | (refine wpList_store_row rfl 25 _ _ rfl _ _ rfl rfl 25 _ H2.out H3.out H4.out H5.out ?_))
      refine bodyPost_ret_by (results_cell_row Trym.results15 _ _ (w.heap.size + 1) 25 (arr (plusL ys k)) (0, 0) _ rfl (setRow_heap _ _ _ _ _ _ H2.out) Trym.underlying25 rfl H3.out) rfl ⟨rfl, ?_⟩
      exact below_setRow' ((((Below.refl _ _).alloc (Nat.le_refl _) _).alloc (by simp <;> omega) _).alloc (by simp <;> omega) _) (by omega) _
end Go.Proofs.Qxb6000065aMods
