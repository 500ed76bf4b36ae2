import Derived.Test.Qxb6001376aModsParts
import Derived.Test.Qxb6001376aModsPlain
namespace Go.Proofs.Qxb6001376aMods
open Go.RowKit
set_option linter.unusedVariables false

theorem acc_any (s : Int) (w : World) : Calls Trym.prog 19 #[.int .i64 s] w fun e w' => e = .returned (.bool (acc s)) ∧ w = w' := by
  unfold acc
  by_cases h2 : s = 2
  · subst h2
    go_enter Trym.func19, Trym.ntmps19
    go_wp2
    go_ret
    exact ⟨rfl, rfl⟩
  · have e2 : (s == 2) = false := by simpa using h2
    by_cases h3 : s = 3
    · subst h3
      go_enter Trym.func19, Trym.ntmps19
      go_wp2
      go_ret
      exact ⟨rfl, rfl⟩
    · have e3 : (s == 3) = false := by simpa using h3
      by_cases h5 : s = 5
      · subst h5
        go_enter Trym.func19, Trym.ntmps19
        go_wp2
        go_ret
        exact ⟨rfl, rfl⟩
      · have e5 : (s == 5) = false := by simpa using h5
        rw [e2, e3, e5]
        clear h2 h3 h5
        go_enter Trym.func19, Trym.ntmps19
        go_wp2
        go_ret
        exact ⟨by simp, rfl⟩

theorem ret_int {k : IntKind} {a b : Int} (h : a = b) : Ending.returned (.int k a) = .returned (.int k b) := by rw [h]

/-- The classes of bytes that the table tells apart. -/
theorem classes (c : Int) : c = 43 ∨ c = 45 ∨ c = 46 ∨ c = 48 ∨ c = 69 ∨ c = 101 ∨
    (((c == 43) = false ∧ (c == 45) = false ∧ (c == 46) = false ∧ (c == 48) = false ∧ (c == 69) = false ∧ (c == 101) = false) ∧ ((49 ≤ c ∧ c ≤ 57) ∨ (c < 48 ∧ c ≠ 43 ∧ c ≠ 45 ∧ c ≠ 46) ∨ (57 < c ∧ c ≠ 69 ∧ c ≠ 101))) := by
  simp only [beq_eq_false_iff_ne, ne_eq]
  omega

set_option linter.unusedSimpArgs false
theorem dig_0 {c : Int} (ha : 49 ≤ c) (hb : c ≤ 57) : 3 = stepF 0 c := by
  have n1 : c ≠ 43 := by omega
  have n2 : c ≠ 45 := by omega
  have n3 : c ≠ 46 := by omega
  have n4 : c ≠ 48 := by omega
  have n5 : c ≠ 69 := by omega
  have n6 : c ≠ 101 := by omega
  have d : 48 ≤ c ∧ c ≤ 57 := by omega
  simp [stepF, n1, n2, n3, n4, n5, n6, d]
theorem oth_0 {c : Int} (d : ¬ (48 ≤ c ∧ c ≤ 57)) (n1 : c ≠ 43) (n2 : c ≠ 45) (n3 : c ≠ 46) (n5 : c ≠ 69) (n6 : c ≠ 101) : -1 = stepF 0 c := by
  have n4 : c ≠ 48 := by omega
  simp [stepF, n1, n2, n3, n4, n5, n6, d]
theorem dig_1 {c : Int} (ha : 49 ≤ c) (hb : c ≤ 57) : 3 = stepF 1 c := by
  have n1 : c ≠ 43 := by omega
  have n2 : c ≠ 45 := by omega
  have n3 : c ≠ 46 := by omega
  have n4 : c ≠ 48 := by omega
  have n5 : c ≠ 69 := by omega
  have n6 : c ≠ 101 := by omega
  have d : 48 ≤ c ∧ c ≤ 57 := by omega
  simp [stepF, n1, n2, n3, n4, n5, n6, d]
theorem oth_1 {c : Int} (d : ¬ (48 ≤ c ∧ c ≤ 57)) (n1 : c ≠ 43) (n2 : c ≠ 45) (n3 : c ≠ 46) (n5 : c ≠ 69) (n6 : c ≠ 101) : -1 = stepF 1 c := by
  have n4 : c ≠ 48 := by omega
  simp [stepF, n1, n2, n3, n4, n5, n6, d]
theorem dig_2 {c : Int} (ha : 49 ≤ c) (hb : c ≤ 57) : -1 = stepF 2 c := by
  have n1 : c ≠ 43 := by omega
  have n2 : c ≠ 45 := by omega
  have n3 : c ≠ 46 := by omega
  have n4 : c ≠ 48 := by omega
  have n5 : c ≠ 69 := by omega
  have n6 : c ≠ 101 := by omega
  have d : 48 ≤ c ∧ c ≤ 57 := by omega
  simp [stepF, n1, n2, n3, n4, n5, n6, d]
theorem oth_2 {c : Int} (d : ¬ (48 ≤ c ∧ c ≤ 57)) (n1 : c ≠ 43) (n2 : c ≠ 45) (n3 : c ≠ 46) (n5 : c ≠ 69) (n6 : c ≠ 101) : -1 = stepF 2 c := by
  have n4 : c ≠ 48 := by omega
  simp [stepF, n1, n2, n3, n4, n5, n6, d]
theorem dig_3 {c : Int} (ha : 49 ≤ c) (hb : c ≤ 57) : 3 = stepF 3 c := by
  have n1 : c ≠ 43 := by omega
  have n2 : c ≠ 45 := by omega
  have n3 : c ≠ 46 := by omega
  have n4 : c ≠ 48 := by omega
  have n5 : c ≠ 69 := by omega
  have n6 : c ≠ 101 := by omega
  have d : 48 ≤ c ∧ c ≤ 57 := by omega
  simp [stepF, n1, n2, n3, n4, n5, n6, d]
theorem oth_3 {c : Int} (d : ¬ (48 ≤ c ∧ c ≤ 57)) (n1 : c ≠ 43) (n2 : c ≠ 45) (n3 : c ≠ 46) (n5 : c ≠ 69) (n6 : c ≠ 101) : -1 = stepF 3 c := by
  have n4 : c ≠ 48 := by omega
  simp [stepF, n1, n2, n3, n4, n5, n6, d]
theorem dig_4 {c : Int} (ha : 49 ≤ c) (hb : c ≤ 57) : 5 = stepF 4 c := by
  have n1 : c ≠ 43 := by omega
  have n2 : c ≠ 45 := by omega
  have n3 : c ≠ 46 := by omega
  have n4 : c ≠ 48 := by omega
  have n5 : c ≠ 69 := by omega
  have n6 : c ≠ 101 := by omega
  have d : 48 ≤ c ∧ c ≤ 57 := by omega
  simp [stepF, n1, n2, n3, n4, n5, n6, d]
theorem oth_4 {c : Int} (d : ¬ (48 ≤ c ∧ c ≤ 57)) (n1 : c ≠ 43) (n2 : c ≠ 45) (n3 : c ≠ 46) (n5 : c ≠ 69) (n6 : c ≠ 101) : -1 = stepF 4 c := by
  have n4 : c ≠ 48 := by omega
  simp [stepF, n1, n2, n3, n4, n5, n6, d]
theorem dig_5 {c : Int} (ha : 49 ≤ c) (hb : c ≤ 57) : 5 = stepF 5 c := by
  have n1 : c ≠ 43 := by omega
  have n2 : c ≠ 45 := by omega
  have n3 : c ≠ 46 := by omega
  have n4 : c ≠ 48 := by omega
  have n5 : c ≠ 69 := by omega
  have n6 : c ≠ 101 := by omega
  have d : 48 ≤ c ∧ c ≤ 57 := by omega
  simp [stepF, n1, n2, n3, n4, n5, n6, d]
theorem oth_5 {c : Int} (d : ¬ (48 ≤ c ∧ c ≤ 57)) (n1 : c ≠ 43) (n2 : c ≠ 45) (n3 : c ≠ 46) (n5 : c ≠ 69) (n6 : c ≠ 101) : -1 = stepF 5 c := by
  have n4 : c ≠ 48 := by omega
  simp [stepF, n1, n2, n3, n4, n5, n6, d]
theorem dig_6 {c : Int} (ha : 49 ≤ c) (hb : c ≤ 57) : 8 = stepF 6 c := by
  have n1 : c ≠ 43 := by omega
  have n2 : c ≠ 45 := by omega
  have n3 : c ≠ 46 := by omega
  have n4 : c ≠ 48 := by omega
  have n5 : c ≠ 69 := by omega
  have n6 : c ≠ 101 := by omega
  have d : 48 ≤ c ∧ c ≤ 57 := by omega
  simp [stepF, n1, n2, n3, n4, n5, n6, d]
theorem oth_6 {c : Int} (d : ¬ (48 ≤ c ∧ c ≤ 57)) (n1 : c ≠ 43) (n2 : c ≠ 45) (n3 : c ≠ 46) (n5 : c ≠ 69) (n6 : c ≠ 101) : -1 = stepF 6 c := by
  have n4 : c ≠ 48 := by omega
  simp [stepF, n1, n2, n3, n4, n5, n6, d]
theorem dig_7 {c : Int} (ha : 49 ≤ c) (hb : c ≤ 57) : 8 = stepF 7 c := by
  have n1 : c ≠ 43 := by omega
  have n2 : c ≠ 45 := by omega
  have n3 : c ≠ 46 := by omega
  have n4 : c ≠ 48 := by omega
  have n5 : c ≠ 69 := by omega
  have n6 : c ≠ 101 := by omega
  have d : 48 ≤ c ∧ c ≤ 57 := by omega
  simp [stepF, n1, n2, n3, n4, n5, n6, d]
theorem oth_7 {c : Int} (d : ¬ (48 ≤ c ∧ c ≤ 57)) (n1 : c ≠ 43) (n2 : c ≠ 45) (n3 : c ≠ 46) (n5 : c ≠ 69) (n6 : c ≠ 101) : -1 = stepF 7 c := by
  have n4 : c ≠ 48 := by omega
  simp [stepF, n1, n2, n3, n4, n5, n6, d]
theorem dig_8 {c : Int} (ha : 49 ≤ c) (hb : c ≤ 57) : 8 = stepF 8 c := by
  have n1 : c ≠ 43 := by omega
  have n2 : c ≠ 45 := by omega
  have n3 : c ≠ 46 := by omega
  have n4 : c ≠ 48 := by omega
  have n5 : c ≠ 69 := by omega
  have n6 : c ≠ 101 := by omega
  have d : 48 ≤ c ∧ c ≤ 57 := by omega
  simp [stepF, n1, n2, n3, n4, n5, n6, d]
theorem oth_8 {c : Int} (d : ¬ (48 ≤ c ∧ c ≤ 57)) (n1 : c ≠ 43) (n2 : c ≠ 45) (n3 : c ≠ 46) (n5 : c ≠ 69) (n6 : c ≠ 101) : -1 = stepF 8 c := by
  have n4 : c ≠ 48 := by omega
  simp [stepF, n1, n2, n3, n4, n5, n6, d]
set_option maxHeartbeats 1600000 in
theorem step_0 (c : Int) (w : World) (h0 : 0 ≤ c) (h1 : c ≤ 255) : Calls Trym.prog 18 #[.int .i64 0, .int .u8 c] w fun e w' => e = .returned (.int .i64 (stepF 0 c)) ∧ w = w' := by
  rcases classes c with rfl | rfl | rfl | rfl | rfl | rfl | ⟨⟨e1, e2, e3, e4, e5, e6⟩, ⟨ha, hb⟩ | ⟨ha, hb, hc, hd⟩ | ⟨ha, hb, hc⟩⟩
  · go_enter Trym.func18, Trym.ntmps18
    go_wp2
    go_ret
    exact ⟨rfl, rfl⟩
  · go_enter Trym.func18, Trym.ntmps18
    go_wp2
    go_ret
    exact ⟨rfl, rfl⟩
  · go_enter Trym.func18, Trym.ntmps18
    go_wp2
    go_ret
    exact ⟨rfl, rfl⟩
  · go_enter Trym.func18, Trym.ntmps18
    go_wp2
    go_ret
    exact ⟨rfl, rfl⟩
  · go_enter Trym.func18, Trym.ntmps18
    go_wp2
    go_ret
    exact ⟨rfl, rfl⟩
  · go_enter Trym.func18, Trym.ntmps18
    go_wp2
    go_ret
    exact ⟨rfl, rfl⟩
  · rw [← dig_0 ha hb]
    go_enter Trym.func18, Trym.ntmps18
    go_wp2
    go_ret
    exact ⟨rfl, rfl⟩
  · rw [← oth_0 (by omega) hb hc hd (by omega) (by omega)]
    clear hb hc hd
    go_enter Trym.func18, Trym.ntmps18
    go_wp2
    go_ret
    exact ⟨rfl, rfl⟩
  · rw [← oth_0 (by omega) (by omega) (by omega) (by omega) hb hc]
    clear hb hc
    go_enter Trym.func18, Trym.ntmps18
    go_wp2
    go_ret
    exact ⟨rfl, rfl⟩

set_option maxHeartbeats 1600000 in
theorem step_1 (c : Int) (w : World) (h0 : 0 ≤ c) (h1 : c ≤ 255) : Calls Trym.prog 18 #[.int .i64 1, .int .u8 c] w fun e w' => e = .returned (.int .i64 (stepF 1 c)) ∧ w = w' := by
  rcases classes c with rfl | rfl | rfl | rfl | rfl | rfl | ⟨⟨e1, e2, e3, e4, e5, e6⟩, ⟨ha, hb⟩ | ⟨ha, hb, hc, hd⟩ | ⟨ha, hb, hc⟩⟩
  · go_enter Trym.func18, Trym.ntmps18
    go_wp2
    go_ret
    exact ⟨rfl, rfl⟩
  · go_enter Trym.func18, Trym.ntmps18
    go_wp2
    go_ret
    exact ⟨rfl, rfl⟩
  · go_enter Trym.func18, Trym.ntmps18
    go_wp2
    go_ret
    exact ⟨rfl, rfl⟩
  · go_enter Trym.func18, Trym.ntmps18
    go_wp2
    go_ret
    exact ⟨rfl, rfl⟩
  · go_enter Trym.func18, Trym.ntmps18
    go_wp2
    go_ret
    exact ⟨rfl, rfl⟩
  · go_enter Trym.func18, Trym.ntmps18
    go_wp2
    go_ret
    exact ⟨rfl, rfl⟩
  · rw [← dig_1 ha hb]
    go_enter Trym.func18, Trym.ntmps18
    go_wp2
    go_ret
    exact ⟨rfl, rfl⟩
  · rw [← oth_1 (by omega) hb hc hd (by omega) (by omega)]
    clear hb hc hd
    go_enter Trym.func18, Trym.ntmps18
    go_wp2
    go_ret
    exact ⟨rfl, rfl⟩
  · rw [← oth_1 (by omega) (by omega) (by omega) (by omega) hb hc]
    clear hb hc
    go_enter Trym.func18, Trym.ntmps18
    go_wp2
    go_ret
    exact ⟨rfl, rfl⟩

set_option maxHeartbeats 1600000 in
theorem step_2 (c : Int) (w : World) (h0 : 0 ≤ c) (h1 : c ≤ 255) : Calls Trym.prog 18 #[.int .i64 2, .int .u8 c] w fun e w' => e = .returned (.int .i64 (stepF 2 c)) ∧ w = w' := by
  rcases classes c with rfl | rfl | rfl | rfl | rfl | rfl | ⟨⟨e1, e2, e3, e4, e5, e6⟩, ⟨ha, hb⟩ | ⟨ha, hb, hc, hd⟩ | ⟨ha, hb, hc⟩⟩
  · go_enter Trym.func18, Trym.ntmps18
    go_wp2
    go_ret
    exact ⟨rfl, rfl⟩
  · go_enter Trym.func18, Trym.ntmps18
    go_wp2
    go_ret
    exact ⟨rfl, rfl⟩
  · go_enter Trym.func18, Trym.ntmps18
    go_wp2
    go_ret
    exact ⟨rfl, rfl⟩
  · go_enter Trym.func18, Trym.ntmps18
    go_wp2
    go_ret
    exact ⟨rfl, rfl⟩
  · go_enter Trym.func18, Trym.ntmps18
    go_wp2
    go_ret
    exact ⟨rfl, rfl⟩
  · go_enter Trym.func18, Trym.ntmps18
    go_wp2
    go_ret
    exact ⟨rfl, rfl⟩
  · rw [← dig_2 ha hb]
    go_enter Trym.func18, Trym.ntmps18
    go_wp2
    go_ret
    exact ⟨rfl, rfl⟩
  · rw [← oth_2 (by omega) hb hc hd (by omega) (by omega)]
    clear hb hc hd
    go_enter Trym.func18, Trym.ntmps18
    go_wp2
    go_ret
    exact ⟨rfl, rfl⟩
  · rw [← oth_2 (by omega) (by omega) (by omega) (by omega) hb hc]
    clear hb hc
    go_enter Trym.func18, Trym.ntmps18
    go_wp2
    go_ret
    exact ⟨rfl, rfl⟩

set_option maxHeartbeats 1600000 in
theorem step_3 (c : Int) (w : World) (h0 : 0 ≤ c) (h1 : c ≤ 255) : Calls Trym.prog 18 #[.int .i64 3, .int .u8 c] w fun e w' => e = .returned (.int .i64 (stepF 3 c)) ∧ w = w' := by
  rcases classes c with rfl | rfl | rfl | rfl | rfl | rfl | ⟨⟨e1, e2, e3, e4, e5, e6⟩, ⟨ha, hb⟩ | ⟨ha, hb, hc, hd⟩ | ⟨ha, hb, hc⟩⟩
  · go_enter Trym.func18, Trym.ntmps18
    go_wp2
    go_ret
    exact ⟨rfl, rfl⟩
  · go_enter Trym.func18, Trym.ntmps18
    go_wp2
    go_ret
    exact ⟨rfl, rfl⟩
  · go_enter Trym.func18, Trym.ntmps18
    go_wp2
    go_ret
    exact ⟨rfl, rfl⟩
  · go_enter Trym.func18, Trym.ntmps18
    go_wp2
    go_ret
    exact ⟨rfl, rfl⟩
  · go_enter Trym.func18, Trym.ntmps18
    go_wp2
    go_ret
    exact ⟨rfl, rfl⟩
  · go_enter Trym.func18, Trym.ntmps18
    go_wp2
    go_ret
    exact ⟨rfl, rfl⟩
  · rw [← dig_3 ha hb]
    go_enter Trym.func18, Trym.ntmps18
    go_wp2
    go_ret
    exact ⟨rfl, rfl⟩
  · rw [← oth_3 (by omega) hb hc hd (by omega) (by omega)]
    clear hb hc hd
    go_enter Trym.func18, Trym.ntmps18
    go_wp2
    go_ret
    exact ⟨rfl, rfl⟩
  · rw [← oth_3 (by omega) (by omega) (by omega) (by omega) hb hc]
    clear hb hc
    go_enter Trym.func18, Trym.ntmps18
    go_wp2
    go_ret
    exact ⟨rfl, rfl⟩

set_option maxHeartbeats 1600000 in
theorem step_4 (c : Int) (w : World) (h0 : 0 ≤ c) (h1 : c ≤ 255) : Calls Trym.prog 18 #[.int .i64 4, .int .u8 c] w fun e w' => e = .returned (.int .i64 (stepF 4 c)) ∧ w = w' := by
  rcases classes c with rfl | rfl | rfl | rfl | rfl | rfl | ⟨⟨e1, e2, e3, e4, e5, e6⟩, ⟨ha, hb⟩ | ⟨ha, hb, hc, hd⟩ | ⟨ha, hb, hc⟩⟩
  · go_enter Trym.func18, Trym.ntmps18
    go_wp2
    go_ret
    exact ⟨rfl, rfl⟩
  · go_enter Trym.func18, Trym.ntmps18
    go_wp2
    go_ret
    exact ⟨rfl, rfl⟩
  · go_enter Trym.func18, Trym.ntmps18
    go_wp2
    go_ret
    exact ⟨rfl, rfl⟩
  · go_enter Trym.func18, Trym.ntmps18
    go_wp2
    go_ret
    exact ⟨rfl, rfl⟩
  · go_enter Trym.func18, Trym.ntmps18
    go_wp2
    go_ret
    exact ⟨rfl, rfl⟩
  · go_enter Trym.func18, Trym.ntmps18
    go_wp2
    go_ret
    exact ⟨rfl, rfl⟩
  · rw [← dig_4 ha hb]
    go_enter Trym.func18, Trym.ntmps18
    go_wp2
    go_ret
    exact ⟨rfl, rfl⟩
  · rw [← oth_4 (by omega) hb hc hd (by omega) (by omega)]
    clear hb hc hd
    go_enter Trym.func18, Trym.ntmps18
    go_wp2
    go_ret
    exact ⟨rfl, rfl⟩
  · rw [← oth_4 (by omega) (by omega) (by omega) (by omega) hb hc]
    clear hb hc
    go_enter Trym.func18, Trym.ntmps18
    go_wp2
    go_ret
    exact ⟨rfl, rfl⟩

set_option maxHeartbeats 1600000 in
theorem step_5 (c : Int) (w : World) (h0 : 0 ≤ c) (h1 : c ≤ 255) : Calls Trym.prog 18 #[.int .i64 5, .int .u8 c] w fun e w' => e = .returned (.int .i64 (stepF 5 c)) ∧ w = w' := by
  rcases classes c with rfl | rfl | rfl | rfl | rfl | rfl | ⟨⟨e1, e2, e3, e4, e5, e6⟩, ⟨ha, hb⟩ | ⟨ha, hb, hc, hd⟩ | ⟨ha, hb, hc⟩⟩
  · go_enter Trym.func18, Trym.ntmps18
    go_wp2
    go_ret
    exact ⟨rfl, rfl⟩
  · go_enter Trym.func18, Trym.ntmps18
    go_wp2
    go_ret
    exact ⟨rfl, rfl⟩
  · go_enter Trym.func18, Trym.ntmps18
    go_wp2
    go_ret
    exact ⟨rfl, rfl⟩
  · go_enter Trym.func18, Trym.ntmps18
    go_wp2
    go_ret
    exact ⟨rfl, rfl⟩
  · go_enter Trym.func18, Trym.ntmps18
    go_wp2
    go_ret
    exact ⟨rfl, rfl⟩
  · go_enter Trym.func18, Trym.ntmps18
    go_wp2
    go_ret
    exact ⟨rfl, rfl⟩
  · rw [← dig_5 ha hb]
    go_enter Trym.func18, Trym.ntmps18
    go_wp2
    go_ret
    exact ⟨rfl, rfl⟩
  · rw [← oth_5 (by omega) hb hc hd (by omega) (by omega)]
    clear hb hc hd
    go_enter Trym.func18, Trym.ntmps18
    go_wp2
    go_ret
    exact ⟨rfl, rfl⟩
  · rw [← oth_5 (by omega) (by omega) (by omega) (by omega) hb hc]
    clear hb hc
    go_enter Trym.func18, Trym.ntmps18
    go_wp2
    go_ret
    exact ⟨rfl, rfl⟩

set_option maxHeartbeats 1600000 in
theorem step_6 (c : Int) (w : World) (h0 : 0 ≤ c) (h1 : c ≤ 255) : Calls Trym.prog 18 #[.int .i64 6, .int .u8 c] w fun e w' => e = .returned (.int .i64 (stepF 6 c)) ∧ w = w' := by
  rcases classes c with rfl | rfl | rfl | rfl | rfl | rfl | ⟨⟨e1, e2, e3, e4, e5, e6⟩, ⟨ha, hb⟩ | ⟨ha, hb, hc, hd⟩ | ⟨ha, hb, hc⟩⟩
  · go_enter Trym.func18, Trym.ntmps18
    go_wp2
    go_ret
    exact ⟨rfl, rfl⟩
  · go_enter Trym.func18, Trym.ntmps18
    go_wp2
    go_ret
    exact ⟨rfl, rfl⟩
  · go_enter Trym.func18, Trym.ntmps18
    go_wp2
    go_ret
    exact ⟨rfl, rfl⟩
  · go_enter Trym.func18, Trym.ntmps18
    go_wp2
    go_ret
    exact ⟨rfl, rfl⟩
  · go_enter Trym.func18, Trym.ntmps18
    go_wp2
    go_ret
    exact ⟨rfl, rfl⟩
  · go_enter Trym.func18, Trym.ntmps18
    go_wp2
    go_ret
    exact ⟨rfl, rfl⟩
  · rw [← dig_6 ha hb]
    go_enter Trym.func18, Trym.ntmps18
    go_wp2
    go_ret
    exact ⟨rfl, rfl⟩
  · rw [← oth_6 (by omega) hb hc hd (by omega) (by omega)]
    clear hb hc hd
    go_enter Trym.func18, Trym.ntmps18
    go_wp2
    go_ret
    exact ⟨rfl, rfl⟩
  · rw [← oth_6 (by omega) (by omega) (by omega) (by omega) hb hc]
    clear hb hc
    go_enter Trym.func18, Trym.ntmps18
    go_wp2
    go_ret
    exact ⟨rfl, rfl⟩

set_option maxHeartbeats 1600000 in
theorem step_7 (c : Int) (w : World) (h0 : 0 ≤ c) (h1 : c ≤ 255) : Calls Trym.prog 18 #[.int .i64 7, .int .u8 c] w fun e w' => e = .returned (.int .i64 (stepF 7 c)) ∧ w = w' := by
  rcases classes c with rfl | rfl | rfl | rfl | rfl | rfl | ⟨⟨e1, e2, e3, e4, e5, e6⟩, ⟨ha, hb⟩ | ⟨ha, hb, hc, hd⟩ | ⟨ha, hb, hc⟩⟩
  · go_enter Trym.func18, Trym.ntmps18
    go_wp2
    go_ret
    exact ⟨rfl, rfl⟩
  · go_enter Trym.func18, Trym.ntmps18
    go_wp2
    go_ret
    exact ⟨rfl, rfl⟩
  · go_enter Trym.func18, Trym.ntmps18
    go_wp2
    go_ret
    exact ⟨rfl, rfl⟩
  · go_enter Trym.func18, Trym.ntmps18
    go_wp2
    go_ret
    exact ⟨rfl, rfl⟩
  · go_enter Trym.func18, Trym.ntmps18
    go_wp2
    go_ret
    exact ⟨rfl, rfl⟩
  · go_enter Trym.func18, Trym.ntmps18
    go_wp2
    go_ret
    exact ⟨rfl, rfl⟩
  · rw [← dig_7 ha hb]
    go_enter Trym.func18, Trym.ntmps18
    go_wp2
    go_ret
    exact ⟨rfl, rfl⟩
  · rw [← oth_7 (by omega) hb hc hd (by omega) (by omega)]
    clear hb hc hd
    go_enter Trym.func18, Trym.ntmps18
    go_wp2
    go_ret
    exact ⟨rfl, rfl⟩
  · rw [← oth_7 (by omega) (by omega) (by omega) (by omega) hb hc]
    clear hb hc
    go_enter Trym.func18, Trym.ntmps18
    go_wp2
    go_ret
    exact ⟨rfl, rfl⟩

set_option maxHeartbeats 1600000 in
theorem step_8 (c : Int) (w : World) (h0 : 0 ≤ c) (h1 : c ≤ 255) : Calls Trym.prog 18 #[.int .i64 8, .int .u8 c] w fun e w' => e = .returned (.int .i64 (stepF 8 c)) ∧ w = w' := by
  rcases classes c with rfl | rfl | rfl | rfl | rfl | rfl | ⟨⟨e1, e2, e3, e4, e5, e6⟩, ⟨ha, hb⟩ | ⟨ha, hb, hc, hd⟩ | ⟨ha, hb, hc⟩⟩
  · go_enter Trym.func18, Trym.ntmps18
    go_wp2
    go_ret
    exact ⟨rfl, rfl⟩
  · go_enter Trym.func18, Trym.ntmps18
    go_wp2
    go_ret
    exact ⟨rfl, rfl⟩
  · go_enter Trym.func18, Trym.ntmps18
    go_wp2
    go_ret
    exact ⟨rfl, rfl⟩
  · go_enter Trym.func18, Trym.ntmps18
    go_wp2
    go_ret
    exact ⟨rfl, rfl⟩
  · go_enter Trym.func18, Trym.ntmps18
    go_wp2
    go_ret
    exact ⟨rfl, rfl⟩
  · go_enter Trym.func18, Trym.ntmps18
    go_wp2
    go_ret
    exact ⟨rfl, rfl⟩
  · rw [← dig_8 ha hb]
    go_enter Trym.func18, Trym.ntmps18
    go_wp2
    go_ret
    exact ⟨rfl, rfl⟩
  · rw [← oth_8 (by omega) hb hc hd (by omega) (by omega)]
    clear hb hc hd
    go_enter Trym.func18, Trym.ntmps18
    go_wp2
    go_ret
    exact ⟨rfl, rfl⟩
  · rw [← oth_8 (by omega) (by omega) (by omega) (by omega) hb hc]
    clear hb hc
    go_enter Trym.func18, Trym.ntmps18
    go_wp2
    go_ret
    exact ⟨rfl, rfl⟩

theorem step_any (s c : Int) (w : World) (hs0 : 0 ≤ s) (hs8 : s ≤ 8) (h0 : 0 ≤ c) (h1 : c ≤ 255) : Calls Trym.prog 18 #[.int .i64 s, .int .u8 c] w fun e w' => e = .returned (.int .i64 (stepF s c)) ∧ w = w' := by
  rcases (show s = 0 ∨ s = 1 ∨ s = 2 ∨ s = 3 ∨ s = 4 ∨ s = 5 ∨ s = 6 ∨ s = 7 ∨ s = 8 from by omega) with rfl | rfl | rfl | rfl | rfl | rfl | rfl | rfl | rfl
  · exact step_0 c w h0 h1
  · exact step_1 c w h0 h1
  · exact step_2 c w h0 h1
  · exact step_3 c w h0 h1
  · exact step_4 c w h0 h1
  · exact step_5 c w h0 h1
  · exact step_6 c w h0 h1
  · exact step_7 c w h0 h1
  · exact step_8 c w h0 h1
end Go.Proofs.Qxb6001376aMods
