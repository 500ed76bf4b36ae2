import Derived.Test.Qxb6001022aModsCount
namespace Go.Proofs.Qxb6001022aMods
open Go.RowKit
set_option linter.unusedVariables false

/-- The i-th of the first n' entries names a nought, and nth such stand ahead of it. -/
def IsNth (W R : List Int) (n' nth i : Nat) : Prop := i < n' ∧ W.getD (R.getD i 0).toNat 0 = 0 ∧ cz W R i = nth

set_option maxHeartbeats 800000 in
theorem nth_any (g n c b' off' n' c' : Nat) (W R : List Int) (nth : Nat) (w : World) (hW : W.length = n) (hR : R.length = n') (hn : n ≤ 1048576) (hn' : n' ≤ 1048576)
    (hcW : ∀ i, i < W.length → w.cell? ⟨g, i * 2 + 1, none⟩ = some (.int .u16 (W.getD i 0))) (hcR : ∀ i, i < R.length → w.cell? ⟨b', off' + i, none⟩ = some (.int .i64 (R.getD i 0)))
    (ok : OkTo W R n') (hlt : nth < cz W R n') :
    Calls Trym.prog 11 #[.slice (some ⟨g, 0, none⟩) n c, .slice (some ⟨b', off', none⟩) n' c', .int .i64 nth] w fun e w' => ∃ i : Nat, IsNth W R n' nth i ∧ e = .returned (.int .i64 i) ∧ w = w' := by
  have HW := hid hcW
  have HR := hid hcR
  have OK := hid ok
  have LW := hid hW
  have LR := hid hR
  have HL := hid hlt
  have hcn := cz_le W R n'
  have hnth : nth ≤ 1048576 := by omega
  clear hcW hcR ok hW hR hlt hcn
  go_enter Trym.func11, Trym.ntmps11
  go_wp2
  go_loop [2, 11] (fun z i => ∃ k : Nat, k ≤ n' ∧ i = .int .i64 k ∧ cz W R k ≤ nth ∧ z = .int .i64 ((nth : Int) - cz W R k)) (fun _ i => n' - (intOf i).toNat)
  case atStart => exact ⟨0, Nat.zero_le _, rfl, Nat.zero_le _, by simp [cz]⟩
  case round =>
    obtain ⟨k, hk, rfl, hle, rfl⟩ := hrel
    by_cases hlt : k < n'
    · have hr := HR.out k (by rw [LR.out]; exact hlt)
      have hrng := OK.out k hlt
      rw [LW.out] at hrng
      have hw := HW.out (R.getD k 0).toNat (by rw [LW.out]; omega)
      by_cases hz : W.getD (R.getD k 0).toNat 0 = 0
      · have HZ := hid hz
        have HS := hid (cz_hit hz)
        rw [hz] at hw
        clear hz
        by_cases hq : cz W R k = nth
        · have HN : Hid (IsNth W R n' nth k) := ⟨hlt, HZ.out, hq⟩
          have hq' : ((nth : Int) - (cz W R k : Nat) == 0) = true := by rw [hq]; simp
          clear hq HZ HS HL
          generalize R.getD k 0 = r at hr hrng hw
          generalize cz W R k = q at hle hq'
          go_wp2
          go_ret
          exact ⟨k, HN.out, rfl, rfl⟩
        · have hq' : ((nth : Int) - (cz W R k : Nat) == 0) = false := by simp; omega
          have HQ := hid hq
          clear hq
          generalize R.getD k 0 = r at hr hrng hw
          generalize hck : cz W R k = q at hle hq'
          have HCK := hid hck
          clear hck
          go_wp2
          go_round
          case rel => exact ⟨k + 1, by omega, by go_num, by have := HS.out; have := HCK.out; have := HQ.out; omega, by rw [HS.out, HCK.out]; go_num⟩
          case measure => simp [intOf]; omega
      · have HS := hid (cz_miss hz)
        have hz' : (W.getD (R.getD k 0).toNat 0 != 0) = true := by simpa using hz
        clear hz
        generalize R.getD k 0 = r at hr hrng hw hz'
        generalize W.getD r.toNat 0 = v at hw hz'
        go_wp2
        go_round
        case rel => exact ⟨k + 1, by omega, by go_num, by rw [HS.out]; exact hle, by rw [HS.out]⟩
        case measure => simp [intOf]; omega
    · exact absurd HL.out (by have e : k = n' := by omega
                              rw [← e]; omega)
end Go.Proofs.Qxb6001022aMods
