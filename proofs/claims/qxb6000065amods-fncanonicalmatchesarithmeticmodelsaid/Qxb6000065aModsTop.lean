import Derived.Test.Qxb6000065aModsCanon
import Derived.OpenShut
namespace Go.Proofs.Qxb6000065aMods
open Go.RowKit
set_option linter.unusedVariables false

theorem zcanon_any (b off len cap : Nat) (zs : List Int) (w : World) (hz : len ≤ zs.length) (h32 : 32 ≤ len) (hb : Bytes zs) (hblk : b < w.heap.size)
    (hc : ∀ i, i < zs.length → w.cell? ⟨b, off + i, none⟩ = some (.int .u8 (zs.getD i 0))) :
    Calls Trym.prog 8 #[.slice (some ⟨b, off, none⟩) len cap] w fun e w' => ((e = .returned (.bool true) ∧ Canon zs) ∨ (e = .returned (.bool false) ∧ ¬ Canon zs)) ∧ Below w.heap.size w w' := by
  by_cases h : Canon zs
  · have C : Hid (Calls Trym.prog 14 #[.slice (some ⟨b, off, none⟩) len cap] w fun e w' => e = .returned (.bool true) ∧ Below w.heap.size w w') :=
      (canon_any b off len cap zs w hz h32 hb hblk hc).mono fun e w' ⟨h1, h2⟩ => ⟨h1.elim (·.1) (fun x => absurd h x.2), h2⟩
    clear hc
    go_enter Trym.func8, Trym.ntmps8
    go_wp2_with (go_at_call 14; refine (C.out).mono ?_; rintro e w1 ⟨rfl, hbel⟩)
    go_ret
    exact ⟨.inl ⟨rfl, h⟩, hbel⟩
  · have C : Hid (Calls Trym.prog 14 #[.slice (some ⟨b, off, none⟩) len cap] w fun e w' => e = .returned (.bool false) ∧ Below w.heap.size w w') :=
      (canon_any b off len cap zs w hz h32 hb hblk hc).mono fun e w' ⟨h1, h2⟩ => ⟨h1.elim (fun x => absurd x.2 h) (·.1), h2⟩
    clear hc
    go_enter Trym.func8, Trym.ntmps8
    go_wp2_with (go_at_call 14; refine (C.out).mono ?_; rintro e w1 ⟨rfl, hbel⟩)
    go_ret
    exact ⟨.inr ⟨rfl, h⟩, hbel⟩

theorem bytes_of_wf {zs : List Int} (h : ∀ n ∈ zs, (Lit.int .u8 n).wf = true) : Bytes zs := fun i => by
  rw [List.getD_eq_getElem?_getD]; exact range_u8 h i

theorem arr_fill (zs : List Int) (h : 32 ≤ zs.length) : fillc .u8 zs 32 32 = arr (zs.take 32) := by rw [fillc_full]; rfl

theorem below_then {B : Nat} {w w1 w2 : World} (h : Below B w w1) (hB : B ≤ w.heap.size) (k : Below w1.heap.size w1 w2) : Below B w w2 :=
  h.trans (k.mono (Nat.le_trans hB h.size))
theorem blk_new {w w3 : World} {o : Obj} (h : Below (w.alloc o).heap.size (w.alloc o) w3) : w3.heap[w.heap.size]? = some o ∧ w.heap.size < w3.heap.size := by
  have hs := h.size
  simp at hs
  exact ⟨(h.block _ (by simp)).trans (heap_alloc_last w o), by omega⟩
theorem blk_old {w3 w4 : World} {g : Nat} {o : Obj} (G : w3.heap[g]? = some o ∧ g < w3.heap.size) (h : Below w3.heap.size w3 w4) : w4.heap[g]? = some o ∧ g < w4.heap.size :=
  ⟨(h.block _ G.2).trans G.1, Nat.lt_of_lt_of_le G.2 h.size⟩

set_option maxHeartbeats 1000000 in
theorem top_core (a0 a1 : Option Addr) (len cap : Nat) (b off : Nat) (z : List Int) (w : World) (c r s o h : Bool)
    (h20 : len ≤ 1048576) (h32 : 32 ≤ len) (hz : z.length = len) (hb : Bytes z)
    (C7 : Hid (Calls Trym.prog 7 #[.slice a0 len cap] w fun e w' => e = .returned (.slice (some ⟨b, off, none⟩) len len) ∧ b < w'.heap.size ∧ (∀ i, i < z.length → w'.cell? ⟨b, off + i, none⟩ = some (.int .u8 (z.getD i 0))) ∧ Below w.heap.size w w'))
    (C8 : Hid (∀ W : World, b < W.heap.size → (∀ i, i < z.length → W.cell? ⟨b, off + i, none⟩ = some (.int .u8 (z.getD i 0))) → Calls Trym.prog 8 #[.slice (some ⟨b, off, none⟩) len len] W fun e w' => e = .returned (.bool c) ∧ Below W.heap.size W w'))
    (C9 : Hid (∀ W : World, Calls Trym.prog 9 #[.agg (arr (yL z)), .int .i64 19] W fun e w' => e = .returned (.bool r) ∧ Below W.heap.size W w'))
    (C10 : Hid (∀ W : World, Calls Trym.prog 10 #[.agg (arr (yL z))] W fun e w' => e = .returned (.bool o) ∧ Below W.heap.size W w'))
    (C11 : Hid (∀ W : World, Calls Trym.prog 11 #[.agg (arr (yL z)), .int .i64 20] W fun e w' => e = .returned (.bool h) ∧ Below W.heap.size W w'))
    (hs : (z.getD 31 0 / 128 == 1) = s)
    (hcase : (r = true ∧ c = false) ∨ (r = false ∧ s = false ∧ c = true) ∨ (r = false ∧ s = true ∧ o = true ∧ c = false) ∨ (r = false ∧ s = true ∧ o = false ∧ h = true ∧ c = false) ∨ (r = false ∧ s = true ∧ o = false ∧ h = false ∧ c = true)) :
    Calls Trym.prog 3 #[.slice a0 len cap] w fun e w' => e = .returned (.bool true) ∧ Below w.heap.size w w' := by
  have C6 : Hid (Calls Trym.prog 6 #[.slice a0 len cap] w fun e w' => e = .returned (.bool true) ∧ w = w') :=
    (bytes_any a0 len cap w (by omega)).mono fun e w' ⟨h1, h2⟩ => ⟨by rw [h1, decide_eq_true h20], h2.symm⟩
  have hset : (arr (z.take 32)).setIfInBounds 31 (.int .u8 (z.getD 31 0 % 128)) = arr (yL z) := arr_set _ _ _
  have hand := u8_and127 (z.getD 31 0) (hb 31).1 (hb 31).2
  have hr31 := hb 31
  have h31 : (arr (z.take 32))[31]? = some (.int .u8 (z.getD 31 0)) := by
    rw [arr_at _ _ (by simp; omega)]; simp
  have HF := hid (arr_fill z (by omega))
  have HS := hid (size25_of (yL z) (yL_length z (by omega)))
  have HZ := hid hz
  clear hb hz
  generalize z.getD 31 0 = t at hset hand hr31 h31 hs
  rcases hcase with ⟨rfl, rfl⟩ | ⟨rfl, rfl, rfl⟩ | ⟨rfl, rfl, rfl, rfl⟩ | ⟨rfl, rfl, rfl, rfl, rfl⟩ | ⟨rfl, rfl, rfl, rfl, rfl⟩
  all_goals
    go_enter Trym.func3, Trym.ntmps3
    go_wp2_with (first | (go_at_call 6; refine (C6.out).mono ?_; rintro e w' ⟨rfl, rfl⟩) | (go_at_call 7; refine (C7.out).mono ?_; rintro e w1 ⟨rfl, hb1, hc1, hbel1⟩; have HC1 := hid hc1; clear hc1) | (go_at_call 8; refine (C8.out _ hb1 HC1.out).mono ?_; rintro e w2 ⟨rfl, hbel2⟩))
    have HC2 : Hid (∀ i, i < z.length → w2.cell? ⟨b, off + i, none⟩ = some (.int .u8 (z.getD i 0))) := fun i hi => (hbel2.cell (p := ⟨b, off + i, none⟩) hb1).trans (HC1.out i hi)
    have hb2 : b < w2.heap.size := Nat.lt_of_lt_of_le hb1 hbel2.size
    have HB2 := hid (below_then hbel1 (Nat.le_refl _) hbel2)
    have hw2 : w.heap.size ≤ w2.heap.size := HB2.out.size
    clear hbel1 hbel2 HC1 hb1 C6 C7 C8
    go_loopw [5] (fun i wr => ∃ j : Nat, j ≤ 32 ∧ i = .int .i64 j ∧ wr = w2.alloc (.cells (fillc .u8 z j 32) 25)) (fun i _ => 32 - (intOf i).toNat)
    case atStart => exact ⟨0, by omega, rfl, rfl⟩
    case round =>
      obtain ⟨j, hj, rfl, rfl⟩ := hrel
      by_cases hlt : j < 32
      · have hcj := HC2.out j (by rw [HZ.out]; omega)
        have hset2 := fillc_set .u8 z j 32 hlt (by rw [HZ.out]; omega)
        have hsz := fillc_size .u8 z j 32 hj (by rw [HZ.out]; omega)
        generalize z.getD j 0 = y at hcj hset2
        have HS2 := hid hset2
        clear hset2
        go_wp2
        go_roundw
        case rel => exact ⟨j + 1, by omega, by go_num, by rw [← HS2.out]⟩
        case measure => simp [intOf]; omega
      · obtain rfl : j = 32 := by omega
        rw [HF.out]
        go_wp2_with (first | (refine wpList_load_new _ rfl 25 _ rfl rfl 25 _ _ Trym.underlying25 rfl HS.out ?_) | (go_at_call 9; refine (C9.out _).mono ?_))
        rintro e w3 ⟨rfl, hbel3⟩
        have G3 := hid (blk_new hbel3)
        have B3 := hid (below_then (HB2.out.alloc hw2 (.cells (arr (yL z)) 25)) (Nat.le_refl _) hbel3)
        clear hbel3 C9
        go_wp2_with (first | (refine wpList_load_want rfl 25 _ rfl (w2.heap.size) rfl 25 _ (0, 0) _ G3.out.1 Trym.underlying25 rfl HS.out ?_) | (go_at_call 10; refine (C10.out _).mono ?_))
        first
          | (go_ret; exact ⟨rfl, B3.out⟩)
          | skip
        all_goals
          rintro e w4 ⟨rfl, hbel4⟩
          have G4 := hid (blk_old G3.out hbel4)
          have B4 := hid (below_then B3.out (Nat.le_refl _) hbel4)
          clear hbel4 C10 G3 B3
          go_wp2_with (first | (refine wpList_load_want rfl 25 _ rfl (w2.heap.size) rfl 25 _ (0, 0) _ G4.out.1 Trym.underlying25 rfl HS.out ?_) | (go_at_call 11; refine (C11.out _).mono ?_))
          first
            | (go_ret; exact ⟨rfl, B4.out⟩)
            | skip
          all_goals
            rintro e w5 ⟨rfl, hbel5⟩
            have B5 := hid (below_then B4.out (Nat.le_refl _) hbel5)
            clear hbel5 C11 G4 B4
            go_wp2
            go_ret
            exact ⟨rfl, B5.out⟩

/-- A contract that tells its bool by a property, at a bool. -/
theorem at_bool {f : Nat} {args : Array Value} {W : World} {p : Prop} {R : World → Prop} (h : Calls Trym.prog f args W fun e w' => ((e = .returned (.bool true) ∧ p) ∨ (e = .returned (.bool false) ∧ ¬ p)) ∧ R w') (c : Bool) (hc : c = true ↔ p) :
    Calls Trym.prog f args W fun e w' => e = .returned (.bool c) ∧ R w' := by
  refine h.mono ?_
  rintro e w' ⟨⟨rfl, hp⟩ | ⟨rfl, hp⟩, hr⟩
  · exact ⟨by rw [hc.2 hp], hr⟩
  · refine ⟨?_, hr⟩
    cases c with
    | true => exact absurd (hc.1 rfl) hp
    | false => rfl

theorem top_law (a0 : Option Addr) (len cap : Nat) (b off : Nat) (z : List Int) (w : World)
    (h20 : len ≤ 1048576) (h32 : 32 ≤ len) (hz : z.length = len) (hb : Bytes z)
    (C7 : Calls Trym.prog 7 #[.slice a0 len cap] w fun e w' => e = .returned (.slice (some ⟨b, off, none⟩) len len) ∧ b < w'.heap.size ∧ (∀ i, i < z.length → w'.cell? ⟨b, off + i, none⟩ = some (.int .u8 (z.getD i 0))) ∧ Below w.heap.size w w')
    (C8 : ∀ W : World, b < W.heap.size → (∀ i, i < z.length → W.cell? ⟨b, off + i, none⟩ = some (.int .u8 (z.getD i 0))) → Calls Trym.prog 8 #[.slice (some ⟨b, off, none⟩) len len] W fun e w' => ((e = .returned (.bool true) ∧ Canon z) ∨ (e = .returned (.bool false) ∧ ¬ Canon z)) ∧ Below W.heap.size W w')
    (C9 : ∀ W : World, Calls Trym.prog 9 #[.agg (arr (yL z)), .int .i64 19] W fun e w' => ((e = .returned (.bool true) ∧ High (yL z)) ∨ (e = .returned (.bool false) ∧ ¬ High (yL z))) ∧ Below W.heap.size W w')
    (C10 : ∀ W : World, Calls Trym.prog 10 #[.agg (arr (yL z))] W fun e w' => ((e = .returned (.bool true) ∧ One (yL z)) ∨ (e = .returned (.bool false) ∧ ¬ One (yL z))) ∧ Below W.heap.size W w')
    (C11 : ∀ W : World, Calls Trym.prog 11 #[.agg (arr (yL z)), .int .i64 20] W fun e w' => ((e = .returned (.bool true) ∧ MinusOne (yL z)) ∨ (e = .returned (.bool false) ∧ ¬ MinusOne (yL z))) ∧ Below W.heap.size W w') :
    Calls Trym.prog 3 #[.slice a0 len cap] w fun e w' => e = .returned (.bool true) ∧ Below w.heap.size w w' := by
  have hr := hb 31
  have of : ∀ p : Prop, ∃ c : Bool, c = true ↔ p := fun p => by
    by_cases h : p
    · exact ⟨true, by simp [h]⟩
    · exact ⟨false, by simp [h]⟩
  obtain ⟨c, hc⟩ := of (Canon z)
  obtain ⟨r, hr'⟩ := of (High (yL z))
  obtain ⟨o, ho⟩ := of (One (yL z))
  obtain ⟨h, hh⟩ := of (MinusOne (yL z))
  refine top_core a0 none len cap b off z w c r (z.getD 31 0 / 128 == 1) o h h20 h32 hz hb C7 (fun W h1 h2 => at_bool (C8 W h1 h2) c hc) (fun W => at_bool (C9 W) r hr') (fun W => at_bool (C10 W) o ho) (fun W => at_bool (C11 W) h hh) rfl ?_
  have hcan : Canon z ↔ (¬ High (yL z) ∧ (z.getD 31 0 / 128 = 0 ∨ (¬ One (yL z) ∧ ¬ MinusOne (yL z)))) := Iff.rfl
  have hs : z.getD 31 0 / 128 = 0 ∨ z.getD 31 0 / 128 = 1 := by omega
  rw [hcan, ← hr', ← ho, ← hh] at hc
  clear C7 C8 C9 C10 C11 hcan hr' ho hh
  rcases hs with hs | hs <;> rw [hs] at hc ⊢ <;> cases c <;> cases r <;> cases o <;> cases h <;> simp at hc ⊢
end Go.Proofs.Qxb6000065aMods
