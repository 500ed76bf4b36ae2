import Derived.Test.Qxb6001022aModsParts
import Derived.Test.Qxb6001022aModsPlain
namespace Go.Proofs.Qxb6001022aMods
open Go.RowKit
set_option linter.unusedVariables false

theorem hid {p : Prop} (h : p) : Hid p := h

theorem bytes_any (a a' : Option Addr) (n c n' c' : Nat) (x : Int) (w : World) (h1 : n ≤ 9223372036854775807) (h2 : n' ≤ 9223372036854775807) :
    Calls Trym.prog 5 #[.slice a n c, .slice a' n' c', .int .i64 x] w fun e w' => e = .returned (.bool (decide (n + n' ≤ 1048576))) ∧ w = w' := by
  by_cases h : n + n' ≤ 1048576
  · go_enter Trym.func5, Trym.ntmps5
    go_wp2
    go_ret
    exact ⟨by simp [h], rfl⟩
  · by_cases ha : n ≤ 1048576
    · by_cases hb : n' ≤ 1048576
      · go_enter Trym.func5, Trym.ntmps5
        go_wp2
        go_ret
        exact ⟨by simp [h], rfl⟩
      · go_enter Trym.func5, Trym.ntmps5
        go_wp2
        go_ret
        exact ⟨by simp [h], rfl⟩
    · go_enter Trym.func5, Trym.ntmps5
      go_wp2
      go_ret
      exact ⟨by simp [h], rfl⟩

/-- No entries: nothing is counted. -/
theorem count_none (a a' : Option Addr) (n c c' : Nat) (w : World) :
    Calls Trym.prog 8 #[.slice a n c, .slice a' 0 c'] w fun e w' => e = .returned (.tuple #[.int .i64 0, .bool true]) ∧ w = w' := by
  go_enter Trym.func8, Trym.ntmps8
  go_wp2
  refine wp_loop_rounds 1 ?_
  rw [rounds_succ]
  go_wp2
  go_ret2
  exact ⟨rfl, rfl⟩

/-- No weights, an entry: it is no index. -/
theorem count_noweights (a : Option Addr) (c b off n' c' : Nat) (v : Int) (w : World) (hn : 0 < n') (hm : n' ≤ 9223372036854775807) (hc : w.cell? ⟨b, off, none⟩ = some (.int .i64 v)) :
    Calls Trym.prog 8 #[.slice a 0 c, .slice (some ⟨b, off, none⟩) n' c'] w fun e w' => e = .returned (.tuple #[.int .i64 0, .bool false]) ∧ w = w' := by
  by_cases hv : v < 0
  · go_enter Trym.func8, Trym.ntmps8
    go_wp2
    refine wp_loop_rounds 1 ?_
    rw [rounds_succ]
    go_wp2
    go_ret2
    exact ⟨rfl, rfl⟩
  · go_enter Trym.func8, Trym.ntmps8
    go_wp2
    refine wp_loop_rounds 1 ?_
    rw [rounds_succ]
    go_wp2
    go_ret2
    exact ⟨rfl, rfl⟩

set_option maxHeartbeats 800000 in
theorem count_ok (b off n c b' off' n' c' : Nat) (W R : List Int) (w : World) (hW : W.length = n) (hR : R.length = n') (hn : n ≤ 1048576) (hn' : n' ≤ 1048576)
    (hcW : ∀ i, i < W.length → w.cell? ⟨b, off + i, none⟩ = some (.int .u16 (W.getD i 0))) (hcR : ∀ i, i < R.length → w.cell? ⟨b', off' + i, none⟩ = some (.int .i64 (R.getD i 0)))
    (ok : OkTo W R n') :
    Calls Trym.prog 8 #[.slice (some ⟨b, off, none⟩) n c, .slice (some ⟨b', off', none⟩) n' c'] w fun e w' => e = .returned (.tuple #[.int .i64 (cz W R n' : Nat), .bool true]) ∧ w = w' := by
  have HW := hid hcW
  have HR := hid hcR
  have OK := hid ok
  have LW := hid hW
  have LR := hid hR
  clear hcW hcR ok hW hR
  go_enter Trym.func8, Trym.ntmps8
  go_wp2
  go_loop [6, 7] (fun z i => ∃ k : Nat, k ≤ n' ∧ i = .int .i64 k ∧ z = .int .i64 (cz W R k : Nat)) (fun _ i => n' - (intOf i).toNat)
  case atStart => exact ⟨0, Nat.zero_le _, rfl, rfl⟩
  case round =>
    obtain ⟨k, hk, rfl, rfl⟩ := hrel
    have hle := cz_le W R k
    by_cases hlt : k < n'
    · have hr := HR.out k (by rw [LR.out]; exact hlt)
      have hrng := OK.out k hlt
      rw [LW.out] at hrng
      have hw := HW.out (R.getD k 0).toNat (by rw [LW.out]; omega)
      by_cases hz : W.getD (R.getD k 0).toNat 0 = 0
      · have HS := hid (cz_hit hz)
        rw [hz] at hw
        clear hz
        generalize R.getD k 0 = r at *
        go_wp2
        go_round
        case rel => exact ⟨k + 1, by omega, by go_num, by rw [HS.out]; go_num⟩
        case measure => simp [intOf]; omega
      · have HS := hid (cz_miss hz)
        generalize R.getD k 0 = r at *
        have hz' : (W.getD r.toNat 0 == 0) = false := by simpa using hz
        clear hz
        generalize W.getD r.toNat 0 = v at *
        go_wp2
        go_round
        case rel => exact ⟨k + 1, by omega, by go_num, by rw [HS.out]⟩
        case measure => simp [intOf]; omega
    · obtain rfl : k = n' := by omega
      go_wp2
      go_ret2
      exact ⟨rfl, rfl⟩

set_option maxHeartbeats 800000 in
theorem count_bad (b off n c b' off' n' c' : Nat) (W R : List Int) (w : World) (hW : W.length = n) (hR : R.length = n') (hn : n ≤ 1048576) (hn' : n' ≤ 1048576)
    (hcW : ∀ i, i < W.length → w.cell? ⟨b, off + i, none⟩ = some (.int .u16 (W.getD i 0))) (hcR : ∀ i, i < R.length → w.cell? ⟨b', off' + i, none⟩ = some (.int .i64 (R.getD i 0)))
    (bad : ¬ OkTo W R n') :
    Calls Trym.prog 8 #[.slice (some ⟨b, off, none⟩) n c, .slice (some ⟨b', off', none⟩) n' c'] w fun e w' => e = .returned (.tuple #[.int .i64 0, .bool false]) ∧ w = w' := by
  have HW := hid hcW
  have HR := hid hcR
  have BAD := hid bad
  have LW := hid hW
  have LR := hid hR
  clear hcW hcR bad hW hR
  go_enter Trym.func8, Trym.ntmps8
  go_wp2
  go_loop [6, 7] (fun z i => ∃ k y : Nat, k ≤ n' ∧ y ≤ k ∧ i = .int .i64 k ∧ z = .int .i64 y ∧ OkTo W R k) (fun _ i => n' - (intOf i).toNat)
  case atStart => exact ⟨0, 0, Nat.zero_le _, Nat.le_refl _, rfl, rfl, fun i hi => by omega⟩
  case round =>
    obtain ⟨k, y, hk, hy, rfl, rfl, hok⟩ := hrel
    have hlt := not_ok BAD.out hk hok
    have OK := hid hok
    clear hok
    have hr := HR.out k (by rw [LR.out]; exact hlt)
    by_cases hneg : R.getD k 0 < 0
    · generalize R.getD k 0 = r at *
      go_wp2
      go_ret2
      exact ⟨rfl, rfl⟩
    · by_cases hbig : R.getD k 0 < n
      · have hw := HW.out (R.getD k 0).toNat (by rw [LW.out]; omega)
        have OK2 := hid (okTo_succ OK.out (by omega) (by rw [LW.out]; exact hbig))
        generalize R.getD k 0 = r at *
        by_cases hz : W.getD r.toNat 0 = 0
        · rw [hz] at hw
          clear hz
          go_wp2
          go_round
          case rel => exact ⟨k + 1, y + 1, by omega, by omega, by go_num, by go_num, OK2.out⟩
          case measure => simp [intOf]; omega
        · have hz' : (W.getD r.toNat 0 == 0) = false := by simpa using hz
          clear hz
          generalize W.getD r.toNat 0 = v at *
          go_wp2
          go_round
          case rel => exact ⟨k + 1, y, by omega, by omega, by go_num, rfl, OK2.out⟩
          case measure => simp [intOf]; omega
      · generalize R.getD k 0 = r at *
        go_wp2
        go_ret2
        exact ⟨rfl, rfl⟩
end Go.Proofs.Qxb6001022aMods
