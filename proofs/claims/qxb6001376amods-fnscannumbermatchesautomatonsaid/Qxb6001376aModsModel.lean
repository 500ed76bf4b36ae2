import Derived.Test.Qxb6001376aModsStep
namespace Go.Proofs.Qxb6001376aMods
open Go.RowKit
set_option linter.unusedVariables false

/-- Every number of the list is a byte. -/
def Bytes (ys : List Int) : Prop := ∀ i, 0 ≤ ys.getD i 0 ∧ ys.getD i 0 ≤ 255

/-- The two results as the model tells them. -/
def outV (r : Int × Bool) : Value := .tuple #[.int .i64 r.1, .bool r.2]

/-- At or past the end: no byte is read. -/
theorem model_past (a : Option Addr) (n c : Nat) (bs : List Int) (i : Nat) (w : World) (hl : bs.length = n) (hn : n ≤ 1048576) (hi : n ≤ i) (hm : i ≤ 9223372036854775807) :
    Calls Trym.prog 10 #[.slice a n c, .int .i64 i] w fun e w' => e = .returned (outV (M bs 0 i)) ∧ w = w' := by
  have e : M bs 0 i = (0, false) := by rw [M_stop bs 0 i (by omega)]; rfl
  rw [e]
  have ha : Hid (∀ W : World, Calls Trym.prog 19 #[.int .i64 0] W fun e w' => e = .returned (.bool false) ∧ W = w') := fun W => acc_any 0 W
  clear e hl
  go_enter Trym.func10, Trym.ntmps10
  go_wp2_with fail
  refine wp_loop_rounds 1 ?_
  rw [rounds_succ]
  go_wp2_with (go_at_call 19; refine (ha.out _).mono ?_; rintro e w' ⟨rfl, rfl⟩)
  go_ret2
  exact ⟨rfl, rfl⟩

set_option maxHeartbeats 800000 in
theorem model_in (b off n c : Nat) (bs : List Int) (i : Nat) (w : World) (hl : bs.length = n) (hn : n ≤ 1048576) (hb : Bytes bs) (hi : i < n)
    (hc : ∀ i, i < bs.length → w.cell? ⟨b, off + i, none⟩ = some (.int .u8 (bs.getD i 0))) :
    Calls Trym.prog 10 #[.slice (some ⟨b, off, none⟩) n c, .int .i64 i] w fun e w' => e = .returned (outV (M bs 0 i)) ∧ w = w' := by
  have HC := hid hc
  have HL := hid hl
  have HB := hid hb
  clear hc hl hb
  obtain ⟨r, hr⟩ : ∃ r, r = M bs 0 i := ⟨_, rfl⟩
  rw [← hr]
  have HR := hid hr
  clear hr
  go_enter Trym.func10, Trym.ntmps10
  go_wp2_with fail
  go_loop [6, 7] (fun s j => ∃ (q : Int) (k : Nat), 0 ≤ q ∧ q ≤ 8 ∧ k ≤ n ∧ s = .int .i64 q ∧ j = .int .i64 k ∧ r = M bs q k) (fun _ j => n - (intOf j).toNat)
  case atStart => exact ⟨0, i, by omega, by omega, by omega, rfl, rfl, HR.out⟩
  case round =>
    obtain ⟨q, k, hq0, hq8, hk, rfl, rfl, hrk⟩ := hrel
    have HK := hid hrk
    clear hrk HR
    by_cases hlt : k < n
    · have hck := HC.out k (by rw [HL.out]; exact hlt)
      have hrng := HB.out k
      have hM := M_eq bs q k (by rw [HL.out]; exact hlt)
      have hst := stepF_range q (bs.getD k 0)
      generalize bs.getD k 0 = y at hck hrng hM hst
      have hcall := fun W => step_any q y W hq0 hq8 hrng.1 hrng.2
      generalize stepF q y = t at hM hst hcall
      have HM := hid hM
      have S := hid hcall
      clear hM hcall
      rcases hst with rfl | ⟨ht0, ht8⟩
      · have HF : Hid (r = fin q k) := by show r = _; rw [HK.out, HM.out]; rfl
        cases ha : acc q with
        | true =>
          have A : Hid (∀ W : World, Calls Trym.prog 19 #[.int .i64 q] W fun e w' => e = .returned (.bool true) ∧ W = w') := fun W => by rw [← ha]; exact acc_any q W
          have HF2 : Hid (r = ((k : Int), true)) := by show r = _; rw [HF.out]; simp [fin, ha]
          clear ha HF HM HK
          go_wp2_with (first | (go_at_call 18; refine (S.out _).mono ?_; rintro e w' ⟨rfl, rfl⟩) | (go_at_call 19; refine (A.out _).mono ?_; rintro e w' ⟨rfl, rfl⟩))
          go_ret2
          exact ⟨by rw [HF2.out]; rfl, rfl⟩
        | false =>
          have A : Hid (∀ W : World, Calls Trym.prog 19 #[.int .i64 q] W fun e w' => e = .returned (.bool false) ∧ W = w') := fun W => by rw [← ha]; exact acc_any q W
          have HF2 : Hid (r = (0, false)) := by show r = _; rw [HF.out]; simp [fin, ha]
          clear ha HF HM HK
          go_wp2_with (first | (go_at_call 18; refine (S.out _).mono ?_; rintro e w' ⟨rfl, rfl⟩) | (go_at_call 19; refine (A.out _).mono ?_; rintro e w' ⟨rfl, rfl⟩))
          go_ret2
          exact ⟨by rw [HF2.out]; rfl, rfl⟩
      · have HN : Hid (r = M bs t (k + 1)) := by show r = _; rw [HK.out, HM.out, if_neg (by omega)]
        clear HM HK
        go_wp2_with (go_at_call 18; refine (S.out _).mono ?_; rintro e w' ⟨rfl, rfl⟩)
        go_round
        case rel => exact ⟨t, k + 1, ht0, ht8, by omega, rfl, by go_num, HN.out⟩
        case measure => simp [intOf]; omega
    · obtain rfl : k = n := by omega
      have HF : Hid (r = fin q k) := by show r = _; rw [HK.out, M_stop bs q k (by rw [HL.out]; exact hlt)]
      cases ha : acc q with
      | true =>
        have A : Hid (∀ W : World, Calls Trym.prog 19 #[.int .i64 q] W fun e w' => e = .returned (.bool true) ∧ W = w') := fun W => by rw [← ha]; exact acc_any q W
        have HF2 : Hid (r = ((k : Int), true)) := by show r = _; rw [HF.out]; simp [fin, ha]
        clear ha HF HK
        go_wp2_with (go_at_call 19; refine (A.out _).mono ?_; rintro e w' ⟨rfl, rfl⟩)
        go_ret2
        exact ⟨by rw [HF2.out]; rfl, rfl⟩
      | false =>
        have A : Hid (∀ W : World, Calls Trym.prog 19 #[.int .i64 q] W fun e w' => e = .returned (.bool false) ∧ W = w') := fun W => by rw [← ha]; exact acc_any q W
        have HF2 : Hid (r = (0, false)) := by show r = _; rw [HF.out]; simp [fin, ha]
        clear ha HF HK
        go_wp2_with (go_at_call 19; refine (A.out _).mono ?_; rintro e w' ⟨rfl, rfl⟩)
        go_ret2
        exact ⟨by rw [HF2.out]; rfl, rfl⟩
end Go.Proofs.Qxb6001376aMods
