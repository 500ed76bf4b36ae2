import Derived.Test.Qxb6000065aModsPlus
import Derived.Laws.StructEq
namespace Go.Proofs.Qxb6000065aMods
open Go.RowKit
set_option linter.unusedVariables false

theorem sizeOf5 (w : World) : (sizeOf 5).run Trym.prog w = .ok 1 w := by
  obtain ⟨i, hi, hz0, hz1, hz2⟩ := info_parts Trym.info5
  simp [sizeOf, typeInfo, hi, hz1]

theorem isAgg5 (w : World) : (isAgg 5).run Trym.prog w = .ok false w := by
  unfold isAgg
  rw [Sem.run_bind, run_underlying Trym.underlying5 w]
  rfl

theorem part5 (ys : List Int) (i : Nat) (hi : i < ys.length) (w : World) : (part 5 (arr ys) i).run Trym.prog w = .ok (.int .u8 (ys.getD i 0)) w := by
  simp only [part, Sem.run_bind, isAgg5, Result.andThen_ok, Bool.false_eq_true, if_false, arr_at ys i hi, Sem.run_pure]

theorem eq_loop (d : Nat) (a b : List Int) (ha : a.length = 32) (hb : b.length = 32) (w : World) (n : Nat) : ∀ s, s + n ≤ 32 →
    Sem.run Trym.prog (forIn (List.range' s n) ((none, ()) : Option Bool × Unit) fun i __s => do
            let __do_lift ← part 5 (arr a) i
            let __do_lift_1 ← part 5 (arr b) i
            let __do_lift ← Op.equalIn (d + 1) 5 __do_lift __do_lift_1
            if (!__do_lift) = true then pure (ForInStep.done (some false, ())) else pure (ForInStep.yield (none, ()))) w =
      .ok (if (List.range' s n).all (fun i => a.getD i 0 == b.getD i 0) then (none, ()) else (some false, ())) w := by
  induction n with
  | zero => intro s hs; simp
  | succ n ih =>
    intro s hs
    have h1 := part5 a s (by omega)
    have h2 := part5 b s (by omega)
    simp only [List.range'_succ, List.forIn_cons, Sem.run_bind, h1, h2, Result.andThen_ok, run_equalIn_int _ d 5 .u8 .u8 _ _ Trym.underlying5]
    cases he : a.getD s 0 == b.getD s 0 with
    | true => simp only [Bool.not_true, Bool.false_eq_true, if_false, Sem.run_pure, Result.andThen_ok, ih (s + 1) (by omega), List.all_cons, he, Bool.true_and]
    | false => simp only [Bool.not_false, if_true, Sem.run_pure, Result.andThen_ok, List.all_cons, he, Bool.false_and, Bool.false_eq_true, if_false]

theorem all_range (a b : List Int) (ha : a.length = 32) (hb : b.length = 32) : (List.range' 0 32).all (fun i => a.getD i 0 == b.getD i 0) = (a == b) := by
  rw [Bool.eq_iff_iff]
  simp only [List.all_eq_true, List.mem_range'_1, beq_iff_eq]
  constructor
  · intro h
    apply List.ext_getElem (by omega)
    intro i h1 h2
    have := h i ⟨by omega, by omega⟩
    simpa [List.getD_eq_getElem?_getD, h1, h2] using this
  · rintro rfl i _; rfl

theorem equal_arr (d : Nat) (a b : List Int) (ha : a.length = 32) (hb : b.length = 32) (w : World) :
    (Op.equalIn (d + 2) 25 (.agg (arr a)) (.agg (arr b))).run Trym.prog w = .ok (a == b) w := by
  unfold Op.equalIn
  simp only [Sem.run_bind, run_underlying Trym.underlying25, Result.andThen_ok, sizeOf5, Nat.mul_one, Std.Legacy.Range.forIn_eq_forIn_range', Std.Legacy.Range.size]
  have h := eq_loop d a b ha hb w 32 0 (by omega)
  rw [all_range a b ha hb] at h
  simp only [Nat.sub_zero, Nat.add_sub_cancel, Nat.div_one, h]
  cases a == b <;> simp
end Go.Proofs.Qxb6000065aMods
