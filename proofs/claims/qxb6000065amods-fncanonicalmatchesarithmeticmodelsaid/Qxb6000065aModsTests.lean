import Derived.Test.Qxb6000065aModsPlus
namespace Go.Proofs.Qxb6000065aMods
open Go.RowKit
set_option linter.unusedVariables false

/-- A whole array stored into the block that was made last. -/
theorem wpList_store_new {P : Program} {ops : Array Oper} {rest : List Oper} {o : Oper} {a : Act} {Q : Exit → Act → World → Prop} (w : World) (hgd : o.guard = none) (ty : TypeId) (x y : Operand) (ho : o.op = .store ty x y)
    (cells : Array Value) (hx : a.eval x = .pointer (some ⟨w.heap.size, 0, none⟩)) (hy : a.eval y = .agg cells)
    (t : TypeId) (old : Array Value) (hi : (P.info? ty).map (·.size) = some cells.size)
    (hold : old.size = cells.size) (h1 : cells.all (·.oneCell') = true)
    (h : wpList P ops Q rest (a.put o.dst undef) (w.alloc (.cells cells t))) : wpList P ops Q (o :: rest) a (w.alloc (.cells old t)) := by
  refine wpList_store_row hgd ty x y ho w.heap.size cells hx hy t old (heap_alloc_last w _) hi hold h1 ?_
  rw [World.setRow_alloc_new]
  exact h

/-- The whole array loaded out of the block that was made last. -/
theorem wpList_load_new {P : Program} {ops : Array Oper} {rest : List Oper} {o : Oper} {a : Act} {Q : Exit → Act → World → Prop} (w : World) (hgd : o.guard = none) (ty : TypeId) (x : Operand) (ho : o.op = .load ty x)
    (hx : a.eval x = .pointer (some ⟨w.heap.size, 0, none⟩)) (t : TypeId) (cs : Array Value) (d : TypeDesc)
    (hu : P.underlying ty = some d) (hd : (match d with | .struct _ | .array _ _ => true | _ => false) = true) (hi : (P.info? ty).map (·.size) = some cs.size)
    (h : wpList P ops Q rest (a.put o.dst (.agg cs)) (w.alloc (.cells cs t))) : wpList P ops Q (o :: rest) a (w.alloc (.cells cs t)) :=
  wpList_load_row hgd ty x ho w.heap.size hx t cs (0, 0) d (heap_alloc_last w _) hu hd hi h

theorem hid {p : Prop} (h : p) : Hid p := h

theorem size25_of (ys : List Int) (hy : ys.length = 32) : (Trym.prog.info? 25).map (·.size) = some (arr ys).size := by rw [arr_size, hy]; exact Trym.size25

theorem below_up {w w1 : World} {o : Obj} (h : Below (w.heap.size + 1) (w.alloc o) w1) : Below w.heap.size w w1 :=
  ((Below.refl _ _).alloc (Nat.le_refl _) _).trans (h.mono (by omega))

set_option maxHeartbeats 400000 in
theorem reaches_any (ys : List Int) (w : World) (hy : ys.length = 32) (hb : Bytes ys) (ht : ys.getD 31 0 ≤ 127) :
    Calls Trym.prog 9 #[.agg (arr ys), .int .i64 19] w fun e w' => ((e = .returned (.bool true) ∧ High ys) ∨ (e = .returned (.bool false) ∧ ¬ High ys)) ∧ Below w.heap.size w w' := by
  have law := reaches_law ys hy hb ht
  have hpb := plusL_bytes ys 19 31
  have h31 := arr_at (plusL ys 19) 31 (by rw [plusL_length]; omega)
  have H1 : Hid _ := size25_of ys hy
  have H2 : Hid _ := size25_of (plusL ys 19) (by rw [plusL_length]; omega)
  have H3 : Hid ((32 : Nat) = (arr (plusL ys 19)).size) := by show _ = _; rw [arr_size, plusL_length, hy]
  have H4 : Hid _ := arr_one (plusL ys 19)
  generalize hz : (plusL ys 19).getD 31 0 = z at *
  have HL : Hid (z / 128 = 1 ↔ High ys) := law
  clear law hz
  go_enter Trym.func9, Trym.ntmps9
  go_wp2_with (first | (refine wpList_load_new _ rfl 25 _ rfl rfl 25 _ _ Trym.underlying25 rfl H1.out ?_) | (refine wpList_store_new _ rfl 25 _ _ rfl _ rfl rfl 25 _ H2.out H3.out H4.out ?_) | (go_at_call 15; refine (plus_any ys 19 _ hy hb (by omega) (by omega)).mono ?_; rintro e w1 ⟨rfl, hbel⟩))
  have hb1 : Below w.heap.size w w1 := below_up (by simpa using hbel)
  have hb2 : Below w.heap.size w (w1.alloc (.cells (arr (plusL ys 19)) 25)) := hb1.alloc hb1.size _
  by_cases hz : z / 128 = 1
  · go_ret
    exact ⟨.inl ⟨by simp [hz], HL.out.1 hz⟩, hb2⟩
  · go_ret
    exact ⟨.inr ⟨by simp [hz], fun h => hz (HL.out.2 h)⟩, hb2⟩

set_option maxHeartbeats 400000 in
theorem one_any (ys : List Int) (w : World) (hy : ys.length = 32) (hb : Bytes ys) :
    Calls Trym.prog 10 #[.agg (arr ys)] w fun e w' => ((e = .returned (.bool true) ∧ One ys) ∨ (e = .returned (.bool false) ∧ ¬ One ys)) ∧ Below w.heap.size w w' := by
  have hb2 : Below w.heap.size w (w.alloc (.cells (arr ys) 25)) := (Below.refl _ _).alloc (Nat.le_refl _) _
  have h0 := arr_at ys 0 (by omega)
  by_cases e0 : ys.getD 0 0 = 1
  · have e0' : (ys.getD 0 0 != 1) = false := by rw [e0]; decide
    generalize hz : ys.getD 0 0 = z at h0 e0 e0'
    have HZ : Hid (ys.getD 0 0 = 1) := by show _ = _; rw [hz, e0]
    clear hz e0
    go_enter Trym.func10, Trym.ntmps10
    go_wp2
    go_loop [3] (fun i => ∃ j : Nat, 1 ≤ j ∧ j ≤ 32 ∧ i = .int .i64 j ∧ ∀ t, 1 ≤ t → t < j → ys.getD t 0 = 0) (fun i => 32 - (intOf i).toNat)
    case atStart => exact ⟨1, by omega, by omega, rfl, fun t a b => by omega⟩
    case round =>
      obtain ⟨j, hj1, hj2, rfl, hall⟩ := hrel
      have HA : Hid (∀ t, 1 ≤ t → t < j → ys.getD t 0 = 0) := hall
      clear hall
      by_cases hlt : j < 32
      · have hj := arr_at ys j (by omega)
        by_cases ej : ys.getD j 0 = 0
        · have ej' : (ys.getD j 0 != 0) = false := by rw [ej]; decide
          have EJ : Hid (ys.getD j 0 = 0) := ej
          clear ej
          generalize ys.getD j 0 = y at hj ej' 
          go_wp2
          go_round
          case rel => exact ⟨j + 1, by omega, by omega, by go_num, fun t a b => by
            by_cases ht : t = j
            · rw [ht]; exact EJ.out
            · exact HA.out t a (by omega)⟩
          case measure => simp [intOf]; omega
        · have ej' : (ys.getD j 0 != 0) = true := by simpa using ej
          have EJ : Hid (¬ ys.getD j 0 = 0) := ej
          clear ej
          generalize ys.getD j 0 = y at hj ej' 
          go_wp2
          go_ret
          exact ⟨.inr ⟨rfl, fun h => EJ.out (h.2 j hj1 (by omega))⟩, hb2⟩
      · obtain rfl : j = 32 := by omega
        go_wp2
        go_ret
        exact ⟨.inl ⟨rfl, HZ.out, fun i a b => HA.out i a (by omega)⟩, hb2⟩
  · have e0' : (ys.getD 0 0 != 1) = true := by simpa using e0
    generalize hz : ys.getD 0 0 = z at h0 e0 e0'
    have HZ : Hid (¬ ys.getD 0 0 = 1) := by show ¬ _; rw [hz]; exact e0
    clear hz e0
    go_enter Trym.func10, Trym.ntmps10
    go_wp2
    go_ret
    exact ⟨.inr ⟨rfl, fun h => HZ.out h.1⟩, hb2⟩

set_option maxHeartbeats 400000 in
theorem hits_any (ys : List Int) (w : World) (hy : ys.length = 32) (hb : Bytes ys) (ht : ys.getD 31 0 ≤ 127) :
    Calls Trym.prog 11 #[.agg (arr ys), .int .i64 20] w fun e w' => ((e = .returned (.bool true) ∧ MinusOne ys) ∨ (e = .returned (.bool false) ∧ ¬ MinusOne ys)) ∧ Below w.heap.size w w' := by
  have law := hits_law ys hy hb ht
  have hpl : (plusL ys 20).length = 32 := by rw [plusL_length]; omega
  have h31 := arr_at (plusL ys 20) 31 (by omega)
  have H0 := hid (plus_any ys 20 (w.alloc (.cells (arr ys) 25)) hy hb (by omega) (by omega))
  have H1 : Hid _ := size25_of ys hy
  have H2 : Hid _ := size25_of (plusL ys 20) hpl
  have H3 : Hid ((32 : Nat) = (arr (plusL ys 20)).size) := by show _ = _; rw [arr_size, hpl]
  have H4 : Hid _ := arr_one (plusL ys 20)
  generalize plusL ys 20 = zs at *
  have HL : Hid ((zs.getD 31 0 = 128 ∧ ∀ i, i < 31 → zs.getD i 0 = 0) ↔ MinusOne ys) := law
  clear law
  by_cases e0 : zs.getD 31 0 = 128
  · have e0' : (zs.getD 31 0 != 128) = false := by rw [e0]; decide
    have HZ : Hid (zs.getD 31 0 = 128) := e0
    clear e0
    generalize zs.getD 31 0 = z at h31 e0'
    go_enter Trym.func11, Trym.ntmps11
    go_wp2_with (first | (refine wpList_load_new _ rfl 25 _ rfl rfl 25 _ _ Trym.underlying25 rfl H1.out ?_) | (refine wpList_store_new _ rfl 25 _ _ rfl _ rfl rfl 25 _ H2.out H3.out H4.out ?_) | (go_at_call 15; refine (H0.out).mono ?_; rintro e w1 ⟨rfl, hbel⟩))
    have hb1 : Below w.heap.size w w1 := below_up (by simpa using hbel)
    have hb2 : Below w.heap.size w (w1.alloc (.cells (arr zs) 25)) := hb1.alloc hb1.size _
    clear hbel hb1
    go_loop [6] (fun i => ∃ j : Nat, j ≤ 31 ∧ i = .int .i64 j ∧ ∀ t, t < j → zs.getD t 0 = 0) (fun i => 31 - (intOf i).toNat)
    case atStart => exact ⟨0, by omega, rfl, fun t a => by omega⟩
    case round =>
      obtain ⟨j, hj2, rfl, hall⟩ := hrel
      have HA : Hid (∀ t, t < j → zs.getD t 0 = 0) := hall
      clear hall
      by_cases hlt : j < 31
      · have hj := arr_at zs j (by omega)
        by_cases ej : zs.getD j 0 = 0
        · have ej' : (zs.getD j 0 != 0) = false := by rw [ej]; decide
          have EJ : Hid (zs.getD j 0 = 0) := ej
          clear ej
          generalize zs.getD j 0 = y at hj ej' 
          go_wp2
          go_round
          case rel => exact ⟨j + 1, by omega, by go_num, fun t a => by
            by_cases ht : t = j
            · rw [ht]; exact EJ.out
            · exact HA.out t (by omega)⟩
          case measure => simp [intOf]; omega
        · have ej' : (zs.getD j 0 != 0) = true := by simpa using ej
          have EJ : Hid (¬ zs.getD j 0 = 0) := ej
          clear ej
          generalize zs.getD j 0 = y at hj ej' 
          go_wp2
          go_ret
          exact ⟨.inr ⟨rfl, fun h => EJ.out ((HL.out.2 h).2 j hlt)⟩, hb2⟩
      · obtain rfl : j = 31 := by omega
        go_wp2
        go_ret
        exact ⟨.inl ⟨rfl, HL.out.1 ⟨HZ.out, fun i a => HA.out i (by omega)⟩⟩, hb2⟩
  · have e0' : (zs.getD 31 0 != 128) = true := by simpa using e0
    have HZ : Hid (¬ zs.getD 31 0 = 128) := e0
    clear e0
    generalize zs.getD 31 0 = z at h31 e0'
    go_enter Trym.func11, Trym.ntmps11
    go_wp2_with (first | (refine wpList_load_new _ rfl 25 _ rfl rfl 25 _ _ Trym.underlying25 rfl H1.out ?_) | (refine wpList_store_new _ rfl 25 _ _ rfl _ rfl rfl 25 _ H2.out H3.out H4.out ?_) | (go_at_call 15; refine (H0.out).mono ?_; rintro e w1 ⟨rfl, hbel⟩))
    have hb1 : Below w.heap.size w w1 := below_up (by simpa using hbel)
    have hb2 : Below w.heap.size w (w1.alloc (.cells (arr zs) 25)) := hb1.alloc hb1.size _
    go_ret
    exact ⟨.inr ⟨rfl, fun h => HZ.out (HL.out.2 h).1⟩, hb2⟩
end Go.Proofs.Qxb6000065aMods
