/-
  THE PROOF OF 'Rows.FnCanonicalMatchesArithmeticModelSaid': the frame as the seat's shell has it; the walk out of this seat's own texts.
-/
import Derived.Test.Qxb6000065aModsRows
import Derived.WalkKit
import Derived.ProofKit
import Derived.OpenShut
import Derived.ShutString
import Derived.ChangeOld
import Derived.Below
import Derived.Test.Qxb6000065aModsTop
namespace Go.Proofs.Qxb6000065aMods.fnCanonicalMatchesArithmeticModel
open Go.ChangeShapes Go.WideShapes Go.ChangeAt Go.RowKit
open Go.ChangeMaps (open_string shut_string)
set_option linter.unusedVariables false

theorem own : ownKnob Trym.prog.godebug = none := by kernel_rfl
theorem laidOut : laidOutB Trym.prog = true := by kernel_rfl

theorem walk (a0 : Option Addr) (len0 cap0 : Nat) (z0 : List Int) (w : World) (w0 : IsRow .u8 w a0 len0 cap0 z0) :
    Calls Trym.prog 3 #[.slice a0 len0 cap0] w fun e w' => e = .returned (.bool true) ∧ Below w.heap.size w w' := by
  have hm : len0 ≤ 9223372036854775807 := by
    rcases w0 with ⟨_, rfl, _, _⟩ | ⟨x, _, h1, h2, _⟩
    · omega
    · unfold maxLen at h2; omega
  by_cases h20 : len0 ≤ 1048576
  · by_cases h32 : 32 ≤ len0
    · rcases w0 with ⟨_, rfl, _, _⟩ | ⟨x, rfl, hlc, hcm, hz, hc, hw⟩
      · omega
      · obtain ⟨b, off, rfl, hb, hc'⟩ := plain_of_cells (by omega) hc
        have hzl : (z0.take len0).length = len0 := by simp; omega
        have hbz : Bytes (z0.take len0) := bytes_take (bytes_of_wf hw)
        have hyl := yL_length (z0.take len0) (by omega)
        have hyb := yL_bytes (z0.take len0) (by omega) hbz
        have htop : (yL (z0.take len0)).getD 31 0 ≤ 127 := by rw [yL_top _ (by omega)]; have := hbz 31; omega
        have h31 := hbz 31
        have C7 : Calls Trym.prog 7 #[.slice (some ⟨b, off, none⟩) len0 cap0] w fun e w' => e = .returned (.slice (some ⟨w.heap.size, 0, none⟩) len0 len0) ∧ w.heap.size < w'.heap.size ∧ (∀ i, i < (z0.take len0).length → w'.cell? ⟨w.heap.size, 0 + i, none⟩ = some (.int .u8 ((z0.take len0).getD i 0))) ∧ Below w.heap.size w w' := by
          refine (copy_row b off len0 cap0 z0 w (by omega) h20 (by omega) hb hc').mono ?_
          rintro e w' ⟨rfl, rfl⟩
          refine ⟨rfl, by simp, ?_, (Below.refl _ _).alloc (Nat.le_refl _) _⟩
          rcases isRow_fill .u8 w 5 len0 z0 (by unfold maxLen; omega) (by omega) hw with ⟨h, _⟩ | ⟨x, hx, _, _, _, hcell, _⟩
          · cases h
          · simp only [Option.some.injEq] at hx
            subst hx
            intro i hi
            rw [← add_none]
            exact hcell i hi
        have C8 : ∀ W : World, w.heap.size < W.heap.size → (∀ i, i < (z0.take len0).length → W.cell? ⟨w.heap.size, 0 + i, none⟩ = some (.int .u8 ((z0.take len0).getD i 0))) → Calls Trym.prog 8 #[.slice (some ⟨w.heap.size, 0, none⟩) len0 len0] W fun e w' => ((e = .returned (.bool true) ∧ Canon (z0.take len0)) ∨ (e = .returned (.bool false) ∧ ¬ Canon (z0.take len0))) ∧ Below W.heap.size W w' :=
          fun W h1 h2 => zcanon_any w.heap.size 0 len0 len0 (z0.take len0) W (by omega) h32 hbz h1 h2
        have C9 := fun W => reaches_any (yL (z0.take len0)) W hyl hyb htop
        have C10 := fun W => one_any (yL (z0.take len0)) W hyl hyb
        have C11 := fun W => hits_any (yL (z0.take len0)) W hyl hyb htop
        exact top_law (some ⟨b, off, none⟩) len0 cap0 w.heap.size 0 (z0.take len0) w h20 h32 hzl hbz C7 C8 C9 C10 C11
    · go_enter Trym.func3, Trym.ntmps3
      go_wp2_with (go_at_call 6; refine (bytes_any a0 len0 cap0 w hm).mono ?_; rintro e w' ⟨rfl, hw'⟩; rw [hw', decide_eq_true h20]; clear hw')
      go_ret
      exact ⟨rfl, Below.refl _ _⟩
  · go_enter Trym.func3, Trym.ntmps3
    go_wp2_with (go_at_call 6; refine (bytes_any a0 len0 cap0 w hm).mono ?_; rintro e w' ⟨rfl, hw'⟩; rw [hw', decide_eq_false h20]; clear hw')
    go_ret
    exact ⟨rfl, Below.refl _ _⟩

/-! ### THE ROW's STEP: WRITTEN OUT: LEAVE IT -/
set_option maxRecDepth 100000 in
theorem lifted (os : Os) (started : os.Started) (H : Type) (enc : TypeId × Value → H) :
    ReturnsInHanded {} Trym.checked os 3 .any (Rows.fnCanonicalMatchesArithmeticModelSpec.pre6 enc Trym.prog Trym.f3 Rows.fnCanonicalMatchesArithmeticModelRow.domain false) (Rows.fnCanonicalMatchesArithmeticModelSpec.post enc Trym.prog Trym.f3 false true false false) := by
  refine returnsInHanded_of_change (C := Trym.checked) own started (by kernel_rfl) Trym.func3
    (ChangeSpec.witness6 (enc := enc) (C := Trym.checked) false ⟨#[], #[.slice none 0 0], []⟩ 8 (by kernel_rfl) (by kernel_rfl) (by kernel_rfl) (by kernel_rfl)) ?_
  intro W base args ds gs before hval0 hW hcnd _
  have hval : ∀ (j : Nat) t v, Trym.f3.params[j]? = some t → args[j]? = some v → Value.okWide Trym.prog W .any base t v := hval0
  have hW' := hW
  obtain ⟨p, q, hA0, hV, rfl, hfz, hnd⟩ := hW
  have hA : DataW.TrodAll enc Trym.prog W 0 (fun _ => true) true Trym.f3.params.toList args.toList ds p := hA0
  rw [Trym.params3] at hA hval
  obtain ⟨v0, vs0, d0, ds0, p0, q0, hargs, rfl, rfl, h0, r0⟩ := trodAll_cons hA
  obtain ⟨rfl, rfl, rfl⟩ := trodAll_nil r0
  obtain rfl : args = #[v0] := by cases args; simp_all
  obtain ⟨rfl, rfl⟩ := trodVars_none hV
  obtain ⟨a0, len0, cap0, rfl⟩ := okWide_slice Trym.underlying22 (hval 0 22 v0 rfl rfl)
  have k0 := h0
  have lt0 : ∀ x ∈ p0, x.block < W.heap.size := by obtain ⟨m, hm⟩ := k0; exact DataW.trod_lt m _ _ _ hm
  obtain ⟨z0, w0⟩ : ∃ zs, IsRow .u8 W a0 len0 cap0 zs := by
    obtain ⟨fuel, hf⟩ := h0
    rcases open_ints Trym.underlying22 Trym.underlying5 (by kernel_rfl) hf with ⟨hcs, _⟩ | ⟨x, l, c, zs, hcs, _, hl, hm, hz, _, hcell, hwz⟩
    · simp [Value.cells] at hcs
      obtain ⟨rfl, rfl, rfl⟩ := hcs
      exact ⟨[], .inl ⟨rfl, rfl, rfl, rfl⟩⟩
    · simp [Value.cells] at hcs
      obtain ⟨rfl, rfl, rfl⟩ := hcs
      exact ⟨zs, .inr ⟨_, rfl, hl, hm, by simpa using hz, hcell, hwz⟩⟩
  clear hA0 hval0
  refine (walk a0 len0 cap0 z0 W w0).mono fun e W' ⟨he, bel⟩ => ?_
  subst he
  exact ⟨_, rfl, _, _, _, [], _, [], hW', trodAll_mk1 (shut_bool Trym.underlying4 _), (trodAll_cons_mk (Below.trod laidOut (by kernel_rfl) (of_decide_eq_true (by kernel_rfl)) k0 bel lt0) trodAll_mk0), rfl, bel.frame _, fun h => by cases h⟩

theorem over : Rows.fnCanonicalMatchesArithmeticModelRow.holds Trym.pinned (OpenSpec.ofChange Rows.fnCanonicalMatchesArithmeticModelSpec) :=
  OpenClaim.holds_of_wide 3 Trym.f3 rfl rfl rfl rfl rfl rfl rfl ⟨rfl, rfl, rfl, rfl, rfl⟩ rfl rfl rfl rfl rfl (by kernel_rfl) Trym.func3 (by kernel_rfl)
    (of_decide_eq_true (by kernel_rfl)) (by unfold Func.isWrapper; first | (rw [if_pos (by decide +kernel)]; kernel_rfl) | (rw [if_neg (by decide +kernel)]; exact ⟨rfl, rfl⟩))
    (fun os started H enc _ => lifted os started H enc)

/-- ████ THE STATEMENT ████ -/
theorem proved : Rows.FnCanonicalMatchesArithmeticModelSaid := over
#print axioms proved
end Go.Proofs.Qxb6000065aMods.fnCanonicalMatchesArithmeticModel
