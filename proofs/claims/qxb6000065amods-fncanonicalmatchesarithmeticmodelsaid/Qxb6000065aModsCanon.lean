import Derived.Test.Qxb6000065aModsTests
import Derived.Test.Qxb6000065aModsLists
import Derived.Test.Qxb6000065aModsEq
import Derived.Deep.MidRow
namespace Go.Proofs.Qxb6000065aMods
open Go.RowKit
set_option linter.unusedVariables false

theorem arr_set (ys : List Int) (i : Nat) (v : Int) : (arr ys).setIfInBounds i (.int .u8 v) = arr (ys.set i v) := by
  simp [arr]

theorem mL_set (j : Nat) (h1 : 1 ≤ j) (h2 : j < 31) : (arr (mL j)).setIfInBounds j (.int .u8 255) = arr (mL (j + 1)) := by
  rw [arr_set]
  congr 1
  refine ext32 (by simp [mL_length]) (mL_length _) fun i hi => ?_
  rw [mL_at _ _ hi]
  by_cases hij : j = i
  · subst hij
    rw [List.getD_eq_getElem?_getD, List.getElem?_set_self (by rw [mL_length]; exact hi), if_neg (by omega), if_neg (by omega), if_pos (by omega)]
    rfl
  · rw [List.getD_eq_getElem?_getD, List.getElem?_set_ne hij, ← List.getD_eq_getElem?_getD, mL_at _ _ hi]
    by_cases a : i = 0
    · simp [a]
    · by_cases b : i = 31
      · simp [b]
      · simp only [a, b, if_false]
        by_cases c : i < j
        · rw [if_pos c, if_pos (by omega)]
        · rw [if_neg c, if_neg (by omega)]

theorem heap3_a (w : World) (A B C : Obj) : (((w.alloc A).alloc B).alloc C).heap[w.heap.size]? = some A := by
  rw [heap_alloc_if, if_neg (by simp; omega), heap_alloc_if, if_neg (by simp), heap_alloc_if, if_pos rfl]
theorem heap3_b (w : World) (A B C : Obj) : (((w.alloc A).alloc B).alloc C).heap[w.heap.size + 1]? = some B := by
  rw [heap_alloc_if, if_neg (by simp), heap_alloc_if, if_pos (by simp)]
theorem heap3_c (w : World) (A B C : Obj) : (((w.alloc A).alloc B).alloc C).heap[w.heap.size + 1 + 1]? = some C := by
  rw [heap_alloc_if, if_pos (by simp)]

/-- A whole array loaded, the operation's guard saying yes. -/
theorem wpList_load_want {P : Program} {ops : Array Oper} {rest : List Oper} {o : Oper} {a : Act} {w : World} {Q : Exit → Act → World → Prop} (hw : Region.wanted o (yielded ops a.tmps) = true) (ty : TypeId) (x : Operand) (ho : o.op = .load ty x)
    (g : Nat) (hx : a.eval x = .pointer (some ⟨g, 0, none⟩)) (t : TypeId) (cs : Array Value) (fr : Nat × Nat) (d : TypeDesc) (hg : w.heap[g]? = some (.cells cs t fr))
    (hu : P.underlying ty = some d) (hd : (match d with | .struct _ | .array _ _ => true | _ => false) = true) (hi : (P.info? ty).map (·.size) = some cs.size)
    (h : wpList P ops Q rest (a.put o.dst (.agg cs)) w) : wpList P ops Q (o :: rest) a w :=
  BigFrame.wpList_want hw fun _ hK => wp_load_row ty x ho g hx t cs fr d hg hu hd hi (hK _ _ h)

theorem built_one : Trym.prog.built 25 [(0, .int .u8 1)] = some (arr oneL) := by kernel_rfl
theorem built_minus : Trym.prog.built 25 [(0, .int .u8 236), (31, .int .u8 127)] = some (arr (mL 1)) := by kernel_rfl

/-- An array literal. -/
theorem wpList_build_to {P : Program} {ops : Array Oper} {rest : List Oper} {o : Oper} {a : Act} {w : World} {Q : Exit → Act → World → Prop} (hg : o.guard = none) (t : TypeId) (parts : Array (Nat × Operand)) (ho : o.op = .build t parts)
    (cells : Array Value) (hf : P.built t (parts.map fun (i, x) => (i, a.eval x)).toList = some cells)
    (h : wpList P ops Q rest (a.put o.dst (.agg cells)) w) : wpList P ops Q (o :: rest) a w :=
  wpList_build hg t parts ho (by rw [hf]; rfl) (by rw [hf]; exact h)

theorem wpList_build_c1 {P : Program} {ops : Array Oper} {rest : List Oper} {o : Oper} {a : Act} {w : World} {Q : Exit → Act → World → Prop} (hg : o.guard = none) (t : TypeId) (i : Nat) (v : Value) (ho : o.op = .build t #[(i, .const v)])
    (cells : Array Value) (hf : P.built t [(i, v)] = some cells) (h : wpList P ops Q rest (a.put o.dst (.agg cells)) w) : wpList P ops Q (o :: rest) a w :=
  wpList_build_to hg t _ ho cells (by simpa [BigFrame.eval_const] using hf) h
theorem wpList_build_c2 {P : Program} {ops : Array Oper} {rest : List Oper} {o : Oper} {a : Act} {w : World} {Q : Exit → Act → World → Prop} (hg : o.guard = none) (t : TypeId) (i j : Nat) (v u : Value) (ho : o.op = .build t #[(i, .const v), (j, .const u)])
    (cells : Array Value) (hf : P.built t [(i, v), (j, u)] = some cells) (h : wpList P ops Q rest (a.put o.dst (.agg cells)) w) : wpList P ops Q (o :: rest) a w :=
  wpList_build_to hg t _ ho cells (by simpa [BigFrame.eval_const] using hf) h

/-- A whole array stored into the block that was made last, its number spelt as the walk spells it. -/
theorem wpList_store_last {P : Program} {ops : Array Oper} {rest : List Oper} {o : Oper} {a : Act} {Q : Exit → Act → World → Prop} (w : World) (g : Nat) (hgs : g = w.heap.size) (hgd : o.guard = none) (ty : TypeId) (x y : Operand) (ho : o.op = .store ty x y)
    (cells : Array Value) (hx : a.eval x = .pointer (some ⟨g, 0, none⟩)) (hy : a.eval y = .agg cells)
    (t : TypeId) (old : Array Value) (hi : (P.info? ty).map (·.size) = some cells.size)
    (hold : old.size = cells.size) (h1 : cells.all (·.oneCell') = true)
    (h : wpList P ops Q rest (a.put o.dst undef) (w.alloc (.cells cells t))) : wpList P ops Q (o :: rest) a (w.alloc (.cells old t)) := by
  subst hgs
  exact wpList_store_new w hgd ty x y ho cells hx hy t old hi hold h1 h

theorem range_take {w : World} {b off : Nat} {zs : List Int} (h : ∀ i, i < zs.length → w.cell? ⟨b, off + i, none⟩ = some (.int .u8 (zs.getD i 0))) (n : Nat) :
    w.rangeAt b off ((zs.take n).map (Value.int .u8)) := by
  intro j v hv
  simp only [List.getElem?_map, Option.map_eq_some_iff] at hv
  obtain ⟨x, hx, rfl⟩ := hv
  rw [List.getElem?_take] at hx
  split at hx
  · obtain ⟨hj, rfl⟩ := List.getElem?_eq_some_iff.1 hx
    rw [h j hj]
    simp [hj]
  · cases hx

theorem bytes_take {zs : List Int} {n : Nat} (h : Bytes zs) : Bytes (zs.take n) := by
  intro i
  simp only [List.getD_eq_getElem?_getD, List.getElem?_take]
  split
  · simpa using h i
  · simp

theorem wpList_load_arr {P : Program} {ops : Array Oper} {rest : List Oper} {op : Oper} {a : Act} {w : World} {Q : Exit → Act → World → Prop} (hgd : op.guard = none) (ty : TypeId) (x : Operand) (ho : op.op = .load ty x)
    (b o : Nat) (hx : a.eval x = .pointer (some ⟨b, o, none⟩)) (ys : List Int) (d : TypeDesc) (hc : w.rangeAt b o (ys.map (Value.int .u8)))
    (hu : P.underlying ty = some d) (hd : d.isRow = true) (hi : (P.info? ty).map (·.size) = some (arr ys).size)
    (h : wpList P ops Q rest (a.put op.dst (.agg (arr ys))) w) : wpList P ops Q (op :: rest) a w :=
  wpList_load_mid hgd ty x ho b o hx (ys.map (Value.int .u8)) d hc hu hd (by rw [List.length_map, ← arr_size]; exact hi) h

set_option maxHeartbeats 800000 in
theorem canon_any (b off len cap : Nat) (zs : List Int) (w : World) (hz : len ≤ zs.length) (h32 : 32 ≤ len) (hb : Bytes zs) (hblk : b < w.heap.size)
    (hc : ∀ i, i < zs.length → w.cell? ⟨b, off + i, none⟩ = some (.int .u8 (zs.getD i 0))) :
    Calls Trym.prog 14 #[.slice (some ⟨b, off, none⟩) len cap] w fun e w' => ((e = .returned (.bool true) ∧ Canon zs) ∨ (e = .returned (.bool false) ∧ ¬ Canon zs)) ∧ Below w.heap.size w w' := by
  have hat := fun W => run_arrayAt (P := Trym.prog) W 25 5 32 (some ⟨b, off, none⟩) len cap Trym.underlying25 h32
  have HR := hid (range_take hc 32)
  have hl0 : (zs.take 32).length = 32 := by simp; omega
  have HI := hid (size25_of (zs.take 32) hl0)
  have H3 : Hid ((32 : Nat) = (arr (zs.take 32)).size) := by show _ = _; rw [arr_size, hl0]
  have H4 := hid (arr_one (zs.take 32))
  have h31 : (arr (zs.take 32))[31]? = some (.int .u8 (zs.getD 31 0)) := by
    rw [arr_at _ _ (by omega)]; simp
  have hset : (arr (zs.take 32)).setIfInBounds 31 (.int .u8 (zs.getD 31 0 % 128)) = arr (yL zs) := arr_set _ _ _
  have hand := u8_and127 (zs.getD 31 0) (hb 31).1 (hb 31).2
  have hr31 := hb 31
  have hyb := yL_bytes zs (by omega) hb
  have hyl := yL_length zs (by omega)
  have hy0 := arr_at (yL zs) 0 (by omega)
  have hy31 := arr_at (yL zs) 31 (by omega)
  have hCan : (¬ High (yL zs) ∧ (zs.getD 31 0 / 128 = 0 ∨ (¬ One (yL zs) ∧ ¬ MinusOne (yL zs)))) ↔ Canon zs := Iff.rfl
  have HCan := hid hCan
  clear hl0 hCan hc
  generalize zs.getD 31 0 = t at *
  generalize zs.take 32 = y0 at *
  generalize Canon zs = can at *
  generalize yL zs = ys at *
  have hr0 := hyb 0
  have hr1 := hyb 31
  have H0 := hid (hiB_zero ys)
  generalize ys.getD 0 0 = v0 at *
  generalize ys.getD 31 0 = v31 at *
  go_enter Trym.func14, Trym.ntmps14
  go_wp2_with (first | (refine wpList_load_arr rfl 25 _ rfl b off rfl _ _ HR.out Trym.underlying25 rfl HI.out ?_) | (refine wpList_store_new _ rfl 25 _ _ rfl (arr y0) rfl rfl 25 _ HI.out H3.out H4.out ?_))
  clear hset hand h31 hat hy0 hy31
  all_goals
    go_loop [5, 31] (fun h i => ∃ k : Nat, k ≤ 30 ∧ i = .int .i64 k ∧ h = .bool (hiB ys k)) (fun _ i => 30 - (intOf i).toNat)
    case atStart => exact ⟨0, by omega, rfl, by rw [H0.out]; simp [*]⟩
    case round =>
      obtain ⟨k, hk, rfl, rfl⟩ := hrel
      have HS := hid (hiB_succ ys k)
      by_cases hlt : k < 30
      · have hck : (arr ys)[1 + k]? = some (.int .u8 (ys.getD (k + 1) 0)) := by rw [Nat.add_comm 1 k]; exact arr_at ys (k + 1) (by omega)
        generalize ys.getD (k + 1) 0 = c at *
        cases hh : hiB ys k with
        | true =>
          have HS2 : Hid (hiB ys (k + 1) = (c == 255)) := by show _ = _; rw [HS.out, hh]; rfl
          clear HS hh H0
          go_wp2
          go_round
          case rel => exact ⟨k + 1, by omega, by go_num, by rw [HS2.out]⟩
          case measure => simp [intOf]; omega
        | false =>
          have HS2 : Hid (hiB ys (k + 1) = false) := by show _ = _; rw [HS.out, hh]; rfl
          clear HS hh H0
          go_wp2
          go_round
          case rel => exact ⟨k + 1, by omega, by go_num, by rw [HS2.out]⟩
          case measure => simp [intOf]; omega
      · obtain rfl : k = 30 := by omega
        clear HS H0
        by_cases hi : High ys
        · have hhi : hiB ys 30 = true := (hiB_iff ys).2 hi
          rw [hhi]
          clear hhi
          go_wp2
          go_ret
          exact ⟨.inr ⟨rfl, fun h => (HCan.out.2 h).1 hi⟩, (Below.refl _ _).alloc (Nat.le_refl _) _⟩
        · have hhi : hiB ys 30 = false := by
            cases e : hiB ys 30 with
            | true => exact absurd ((hiB_iff ys).1 e) hi
            | false => rfl
          rw [hhi]
          have HH := hid hi
          clear hhi hi
          have B1 := hid built_one
          have B2 := hid built_minus
          have Z1 := hid (size25_of oneL rfl)
          have Z2 := hid (size25_of (mL 1) (mL_length _))
          have N1 : Hid ((32 : Nat) = (arr oneL).size) := by show _ = _; rw [arr_size]; rfl
          have N2 : Hid ((32 : Nat) = (arr (mL 1)).size) := by show _ = _; rw [arr_size, mL_length]
          have A1 := hid (arr_one oneL)
          have A2 := hid (arr_one (mL 1))
          go_wp2_with (first | (refine wpList_build_c1 rfl 25 0 _ rfl (arr oneL) B1.out ?_) | (refine wpList_build_c2 rfl 25 0 31 _ _ rfl (arr (mL 1)) B2.out ?_) | (refine wpList_store_last _ (w.heap.size + 1) (by simp) rfl 25 _ _ rfl (arr oneL) rfl rfl 25 _ Z1.out N1.out A1.out ?_) | (refine wpList_store_last _ (w.heap.size + 1 + 1) (by simp) rfl 25 _ _ rfl (arr (mL 1)) rfl rfl 25 _ Z2.out N2.out A2.out ?_))
          go_loopw [10] (fun i wr => ∃ j : Nat, 1 ≤ j ∧ j ≤ 31 ∧ i = .int .i64 j ∧
              wr = ((w.alloc (.cells (arr ys) 25)).alloc (.cells (arr oneL) 25)).alloc (.cells (arr (mL j)) 25)) (fun i _ => 31 - (intOf i).toNat)
          case atStart => exact ⟨1, by omega, by omega, rfl, rfl⟩
          case round =>
            obtain ⟨j, hj1, hj2, rfl, rfl⟩ := hrel
            by_cases hlt2 : j < 31
            · have hset := mL_set j hj1 hlt2
              have hsz : (arr (mL j)).size = 32 := by rw [arr_size, mL_length]
              go_wp2
              go_roundw
              case rel => exact ⟨j + 1, by omega, by omega, by go_num, by rw [← hset]⟩
              case measure => simp [intOf]; omega
            · obtain rfl : j = 31 := by omega
              have hb3 : Below w.heap.size w (((w.alloc (.cells (arr ys) 25)).alloc (.cells (arr oneL) 25)).alloc (.cells (arr (mL 31)) 25)) :=
                (((Below.refl _ _).alloc (Nat.le_refl _) _).alloc (by simp <;> omega) _).alloc (by simp <;> omega) _
              by_cases ht0 : t / 128 = 0
              · have e0 : (t / 128 == 0) = true := by simpa using ht0
                have HT := hid ht0
                clear ht0
                go_wp2
                go_ret
                exact ⟨.inl ⟨rfl, HCan.out.1 ⟨HH.out, .inl HT.out⟩⟩, hb3⟩
              · have e0 : (t / 128 == 0) = false := by simpa using ht0
                have HT := hid ht0
                clear ht0
                have hm : Trym.prog.eqGuardType Trym.prog.depth 25 = false := by kernel_rfl
                have hq1 : ∀ W, (Op.equalIn 10000 25 (.agg (arr ys)) (.agg (arr oneL))).run Trym.prog W = .ok (ys == oneL) W := fun W => equal_arr 9998 ys oneL hyl rfl W
                have hq2 : ∀ W, (Op.equalIn 10000 25 (.agg (arr ys)) (.agg (arr (mL 31)))).run Trym.prog W = .ok (ys == mL 31) W := fun W => equal_arr 9998 ys (mL 31) hyl (mL_length _) W
                have I1 := hid (one_iff ys hyl)
                have I2 := hid (minus_iff ys hyl)
                have S1 := hid (size25_of ys hyl)
                have S2 := hid (size25_of oneL rfl)
                have S3 := hid (size25_of (mL 31) (mL_length _))
                have G1 := hid (heap3_a w (.cells (arr ys) 25) (.cells (arr oneL) 25) (.cells (arr (mL 31)) 25))
                have G2 := hid (heap3_b w (.cells (arr ys) 25) (.cells (arr oneL) 25) (.cells (arr (mL 31)) 25))
                have G3 := hid (heap3_c w (.cells (arr ys) 25) (.cells (arr oneL) 25) (.cells (arr (mL 31)) 25))
                generalize oneL = o1 at *
                generalize mL 31 = o2 at *
                by_cases h1 : ys = o1
                · have e1 : (ys == o1) = true := by simpa using h1
                  have E1 := hid h1
                  rw [e1] at hq1
                  clear h1 e1
                  go_wp2_with (first | (refine wpList_load_want rfl 25 _ rfl (w.heap.size) rfl 25 _ (0, 0) _ G1.out Trym.underlying25 rfl S1.out ?_) | (refine wpList_load_want rfl 25 _ rfl (w.heap.size + 1) rfl 25 _ (0, 0) _ G2.out Trym.underlying25 rfl S2.out ?_))
                  go_ret
                  exact ⟨.inr ⟨rfl, fun h => (HCan.out.2 h).2.elim HT.out fun a => a.1 (I1.out.1 E1.out)⟩, hb3⟩
                · have e1 : (ys == o1) = false := by simpa using h1
                  have E1 := hid h1
                  rw [e1] at hq1
                  clear h1 e1
                  by_cases h2 : ys = o2
                  · have e2 : (ys == o2) = true := by simpa using h2
                    have E2 := hid h2
                    rw [e2] at hq2
                    clear h2 e2
                    go_wp2_with (first | (refine wpList_load_want rfl 25 _ rfl (w.heap.size) rfl 25 _ (0, 0) _ G1.out Trym.underlying25 rfl S1.out ?_) | (refine wpList_load_want rfl 25 _ rfl (w.heap.size + 1) rfl 25 _ (0, 0) _ G2.out Trym.underlying25 rfl S2.out ?_) | (refine wpList_load_want rfl 25 _ rfl (w.heap.size + 1 + 1) rfl 25 _ (0, 0) _ G3.out Trym.underlying25 rfl S3.out ?_))
                    go_ret
                    exact ⟨.inr ⟨rfl, fun h => (HCan.out.2 h).2.elim HT.out fun a => a.2 (I2.out.1 E2.out)⟩, hb3⟩
                  · have e2 : (ys == o2) = false := by simpa using h2
                    have E2 := hid h2
                    rw [e2] at hq2
                    clear h2 e2
                    go_wp2_with (first | (refine wpList_load_want rfl 25 _ rfl (w.heap.size) rfl 25 _ (0, 0) _ G1.out Trym.underlying25 rfl S1.out ?_) | (refine wpList_load_want rfl 25 _ rfl (w.heap.size + 1) rfl 25 _ (0, 0) _ G2.out Trym.underlying25 rfl S2.out ?_) | (refine wpList_load_want rfl 25 _ rfl (w.heap.size + 1 + 1) rfl 25 _ (0, 0) _ G3.out Trym.underlying25 rfl S3.out ?_))
                    go_ret
                    exact ⟨.inl ⟨rfl, HCan.out.1 ⟨HH.out, .inr ⟨fun h => E1.out (I1.out.2 h), fun h => E2.out (I2.out.2 h)⟩⟩⟩, hb3⟩
end Go.Proofs.Qxb6000065aMods
