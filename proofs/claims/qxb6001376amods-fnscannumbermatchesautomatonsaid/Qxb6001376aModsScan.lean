import Derived.Test.Qxb6001376aModsModel
import Derived.Deep.CutRange
import Derived.Deep.CutBlock
namespace Go.Proofs.Qxb6001376aMods
open Go.RowKit
set_option linter.unusedVariables false

/-- The bool d tells whether there is a byte at k of which p holds. -/
def Tst (bs : List Int) (n k : Nat) (p : Int → Prop) (d : Bool) : Prop := d = true ↔ (k < n ∧ p (bs.getD k 0))
theorem tst_no {bs : List Int} {n k : Nat} {p : Int → Prop} (h : ¬ k < n) : Tst bs n k p false := Iff.intro (fun e => by cases e) (fun e => absurd e.1 h)

set_option maxRecDepth 10000 in
set_option maxHeartbeats 1600000 in
theorem scan_in (b off n c : Nat) (bs : List Int) (i : Nat) (w : World) (hl : bs.length = n) (hn : n ≤ 1048576) (hb : Bytes bs) (hi : i < n)
    (hc : ∀ i, i < bs.length → w.cell? ⟨b, off + i, none⟩ = some (.int .u8 (bs.getD i 0))) :
    Calls Trym.prog 17 #[.slice (some ⟨b, off, none⟩) n c, .int .i64 i] w fun e w' => e = .returned (outV (M bs 0 i)) ∧ w = w' := by
  have HC := hid hc
  have HL := hid hl
  have HB := hid hb
  clear hc hl hb
  obtain ⟨r, hr⟩ : ∃ r, r = M bs 0 i := ⟨_, rfl⟩
  rw [← hr]
  have HR := hid hr
  clear hr
  go_enter Trym.func17, Trym.ntmps17
  have hci := HC.out i (by rw [HL.out]; exact hi)
  have hrng := HB.out i
  have H1 : Hid (bs.getD i 0 = 45 → At bs n r false f1 (i + 1)) := fun e => by rw [HR.out]; exact at_sign HL.out i hi e
  have H2 : Hid (¬ bs.getD i 0 = 45 → At bs n r false f1 i) := fun e => by rw [HR.out]; exact at_start HL.out i (fun h => e h.2)
  generalize bs.getD i 0 = y at hci hrng H1 H2
  go_upto_if 16 with fail
  go_cut [1] from 6 to 18 (fun s wc => ∃ k : Nat, k ≤ n ∧ s = .int .i64 k ∧ At bs n r false f1 k ∧ w = wc)
  case first =>
    by_cases hy : y = 45
    · have e : (y == 45) = true := by simpa using hy
      have H3 := hid (H1.out hy)
      clear hy H1 H2
      go_wp2
      go_meet
      case rel => exact ⟨i + 1, by omega, by go_num, H3.out, rfl⟩
    · have e : (y == 45) = false := by simpa using hy
      have H3 := hid (H2.out hy)
      clear hy H1 H2
      go_wp2
      go_meet
      case rel => exact ⟨i, by omega, rfl, H3.out, rfl⟩
  case rest =>
    obtain ⟨k, hk, rfl, hat, rfl⟩ := hcut
    clear hci hrng H1 H2 hi
    have A1 := hid hat
    clear hat
    clear HR
    go_upto_block 0 with fail
    go_cut [1] from 19 to 57 (fun s wc => ∃ k : Nat, k ≤ n ∧ s = .int .i64 k ∧ At bs n r true f2 k ∧ w = wc)
    case first =>
      by_cases hlt : k < n
      · have hck := HC.out k (by rw [HL.out]; exact hlt)
        have hrng := HB.out k
        by_cases h48 : bs.getD k 0 = 48
        · rw [h48] at hck
          have H3 : Hid (At bs n r true f2 (k + 1)) := ⟨2, at_next HL.out A1.out hlt 2 (by rw [h48]; rfl) (by decide), rfl, fun _ => step2_any _⟩
          clear h48 A1 hrng
          go_wp2
          go_meet
          case rel => exact ⟨k + 1, by omega, by go_num, H3.out, rfl⟩
        · have h48' : (bs.getD k 0 == 48) = false := by simpa using h48
          by_cases hd : 48 ≤ bs.getD k 0 ∧ bs.getD k 0 ≤ 57
          · have H3 : Hid (r = M bs 3 (k + 1)) := at_next HL.out A1.out hlt 3 (by rw [f1, if_neg h48, if_pos hd]) (by decide)
            have HD := hid hd
            have d1 := hd.1
            have d2 := hd.2
            clear h48 A1 hd
            generalize bs.getD k 0 = y at hck hrng h48' d1 d2
            go_wp2
            clear hck h48' d1 d2 hrng
            go_loop [1] (fun s => ∃ j : Nat, k ≤ j ∧ j ≤ n ∧ s = .int .i64 j ∧ (j = k ∨ r = M bs 3 j)) (fun s => n - (intOf s).toNat)
            case atStart => exact ⟨k, by omega, by omega, rfl, .inl rfl⟩
            case round =>
              obtain ⟨j, hj1, hj2, rfl, hor⟩ := hrel
              have OR := hid hor
              clear hor
              by_cases hjn : j < n
              · have hcj := HC.out j (by rw [HL.out]; exact hjn)
                by_cases hdj : 48 ≤ bs.getD j 0 ∧ bs.getD j 0 ≤ 57
                · have H4 : Hid (r = M bs 3 (j + 1)) := OR.out.elim (fun e => by rw [e]; exact H3.out) (fun e => digits_next HL.out e hjn (step3_dig hdj) (by decide))
                  have d1 := hdj.1
                  have d2 := hdj.2
                  clear hdj
                  generalize bs.getD j 0 = y at hcj d1 d2
                  go_wp2
                  go_round
                  case rel => exact ⟨j + 1, by omega, by omega, by go_num, .inr H4.out⟩
                  case measure => simp [intOf]; omega
                · have H4 : Hid (At bs n r true f2 j) := ⟨3, OR.out.elim (fun e => absurd (by rw [e]; exact HD.out) hdj) id, rfl, fun _ => step3_no hdj⟩
                  have hbb := HB.out j
                  by_cases hlo : 48 ≤ bs.getD j 0
                  · have d2 : 57 < bs.getD j 0 := by omega
                    clear hdj
                    generalize bs.getD j 0 = y at hcj hlo d2 hbb
                    go_wp2
                    go_meet
                    case rel => exact ⟨j, by omega, rfl, H4.out, rfl⟩
                  · clear hdj
                    generalize bs.getD j 0 = y at hcj hlo hbb
                    go_wp2
                    go_meet
                    case rel => exact ⟨j, by omega, rfl, H4.out, rfl⟩
              · have H4 : Hid (At bs n r true f2 j) := ⟨3, OR.out.elim (fun e => by omega) id, rfl, fun h => absurd h hjn⟩
                go_wp2
                go_meet
                case rel => exact ⟨j, by omega, rfl, H4.out, rfl⟩
          · have H3 : Hid (r = (0, false)) := at_no HL.out A1.out (fun _ => by rw [f1, if_neg h48, if_neg hd])
            by_cases hlo : 48 ≤ bs.getD k 0
            · have d2 : 57 < bs.getD k 0 := by omega
              clear h48 A1 hd
              generalize bs.getD k 0 = y at hck hrng h48' hlo d2
              go_wp2
              go_ret2
              exact ⟨by rw [H3.out]; rfl, rfl⟩
            · clear h48 A1 hd
              generalize bs.getD k 0 = y at hck hrng h48' hlo
              go_wp2
              go_ret2
              exact ⟨by rw [H3.out]; rfl, rfl⟩
      · have H3 : Hid (r = (0, false)) := at_no HL.out A1.out (fun h => absurd h hlt)
        clear A1
        go_wp2
        go_ret2
        exact ⟨by rw [H3.out]; rfl, rfl⟩
    case rest =>
      obtain ⟨k, hk, rfl, hat, rfl⟩ := hcut
      clear A1
      have A1 := hid hat
      clear hat
      go_upto_region 9 with fail
      go_cut [68] from 58 to 68 (fun t wc => ∃ d : Bool, t = .bool d ∧ Tst bs n k (· = 46) d ∧ w = wc)
      case first =>
        by_cases hlt : k < n
        · have hck := HC.out k (by rw [HL.out]; exact hlt)
          have HK : Hid (Tst bs n k (· = 46) (bs.getD k 0 == 46)) := by show _ ↔ _; simp [hlt]
          generalize bs.getD k 0 = y at hck HK
          clear A1
          go_wp2
          go_meet
          case rel => exact ⟨_, rfl, HK.out, rfl⟩
        · clear A1
          go_wp2
          go_meet
          case rel => exact ⟨false, rfl, tst_no hlt, rfl⟩
      case rest =>
        obtain ⟨d, rfl, hd, rfl⟩ := hcut
        have HD := hid hd
        clear hd
        go_upto_if 68 with fail
        go_cut [1] from 69 to 95 (fun s wc => ∃ k : Nat, k ≤ n ∧ s = .int .i64 k ∧ At bs n r true f3 k ∧ w = wc)
        case first =>
          cases d with
          | false =>
            have H3 : Hid (At bs n r true f3 k) := at_mono A1.out fun hk => f2_f3 fun e => by have := HD.out.2 ⟨hk, e⟩; cases this
            clear HD A1
            go_wp2
            go_meet
            case rel => exact ⟨k, hk, rfl, H3.out, rfl⟩
          | true =>
            obtain ⟨hlt, h46⟩ := HD.out.1 rfl
            have H3 : Hid (r = M bs 4 (k + 1)) := at_next HL.out A1.out hlt 4 (by rw [h46]; rfl) (by decide)
            clear h46 HD A1
            by_cases hk1 : k + 1 < n
            · have hck := HC.out (k + 1) (by rw [HL.out]; exact hk1)
              have hrng := HB.out (k + 1)
              by_cases hd : 48 ≤ bs.getD (k + 1) 0 ∧ bs.getD (k + 1) 0 ≤ 57
              · have H5 : Hid (r = M bs 5 (k + 1 + 1)) := by show r = _; rw [H3.out]; exact M_step bs 4 5 (k + 1) (by rw [HL.out]; exact hk1) (step4_dig hd) (by decide)
                have HD2 := hid hd
                have d1 := hd.1
                have d2 := hd.2
                clear hd H3
                generalize bs.getD (k + 1) 0 = y at hck hrng d1 d2
                go_wp2
                clear hck d1 d2 hrng
                go_loop [1] (fun s => ∃ j : Nat, (k + 1) ≤ j ∧ j ≤ n ∧ s = .int .i64 j ∧ (j = (k + 1) ∨ r = M bs 5 j)) (fun s => n - (intOf s).toNat)
                case atStart => exact ⟨(k + 1), by omega, by omega, by go_num, .inl rfl⟩
                case round =>
                  obtain ⟨j, hj1, hj2, rfl, hor⟩ := hrel
                  have OR := hid hor
                  clear hor
                  by_cases hjn : j < n
                  · have hcj := HC.out j (by rw [HL.out]; exact hjn)
                    by_cases hdj : 48 ≤ bs.getD j 0 ∧ bs.getD j 0 ≤ 57
                    · have H4 : Hid (r = M bs 5 (j + 1)) := OR.out.elim (fun e => by rw [e]; exact H5.out) (fun e => digits_next HL.out e hjn (step5_dig hdj) (by decide))
                      have d1 := hdj.1
                      have d2 := hdj.2
                      clear hdj
                      generalize bs.getD j 0 = y at hcj d1 d2
                      go_wp2
                      go_round
                      case rel => exact ⟨j + 1, by omega, by omega, by go_num, .inr H4.out⟩
                      case measure => simp [intOf]; omega
                    · have H4 : Hid (At bs n r true f3 j) := ⟨5, OR.out.elim (fun e => absurd (by rw [e]; exact HD2.out) hdj) id, rfl, fun _ => step5_no hdj⟩
                      have hbb := HB.out j
                      by_cases hlo : 48 ≤ bs.getD j 0
                      · have d2 : 57 < bs.getD j 0 := by omega
                        clear hdj
                        generalize bs.getD j 0 = y at hcj hlo d2 hbb
                        go_wp2
                        go_meet
                        case rel => exact ⟨j, by omega, rfl, H4.out, rfl⟩
                      · clear hdj
                        generalize bs.getD j 0 = y at hcj hlo hbb
                        go_wp2
                        go_meet
                        case rel => exact ⟨j, by omega, rfl, H4.out, rfl⟩
                  · have H4 : Hid (At bs n r true f3 j) := ⟨5, OR.out.elim (fun e => by omega) id, rfl, fun h => absurd h hjn⟩
                    go_wp2
                    go_meet
                    case rel => exact ⟨j, by omega, rfl, H4.out, rfl⟩
              · have H5 : Hid (r = (0, false)) := by show r = _; rw [H3.out, M_dead bs 4 (k + 1) (fun _ => step4_no hd)]; rfl
                by_cases hlo : 48 ≤ bs.getD (k + 1) 0
                · have d2 : 57 < bs.getD (k + 1) 0 := by omega
                  clear hd H3
                  generalize bs.getD (k + 1) 0 = y at hck hrng hlo d2
                  have e1 : ((k : Int) + 1 == (n : Int)) = false := by simp; omega
                  have e2 : decide (y ≤ 57) = false := decide_eq_false (by omega)
                  go_wp2
                  go_ret2
                  exact ⟨by rw [H5.out]; rfl, rfl⟩
                · clear hd H3
                  generalize bs.getD (k + 1) 0 = y at hck hrng hlo
                  go_wp2
                  go_ret2
                  exact ⟨by rw [H5.out]; rfl, rfl⟩
            · have H5 : Hid (r = (0, false)) := by show r = _; rw [H3.out, M_stop bs 4 (k + 1) (by rw [HL.out]; exact hk1)]; rfl
              obtain rfl : n = k + 1 := by omega
              clear H3
              go_wp2
              go_ret2
              exact ⟨by rw [H5.out]; rfl, rfl⟩
        case rest =>
          obtain ⟨k, hk, rfl, hat, rfl⟩ := hcut
          clear A1 HD
          have A1 := hid hat
          clear hat
          go_upto_region 15 with fail
          go_cut [113] from 96 to 113 (fun t wc => ∃ d : Bool, t = .bool d ∧ Tst bs n k (fun c => c = 101 ∨ c = 69) d ∧ w = wc)
          case first =>
            by_cases hlt : k < n
            · have hck := HC.out k (by rw [HL.out]; exact hlt)
              by_cases h1 : bs.getD k 0 = 101
              · have HK : Hid (Tst bs n k (fun c => c = 101 ∨ c = 69) true) := Iff.intro (fun _ => ⟨hlt, .inl h1⟩) (fun _ => rfl)
                rw [h1] at hck
                clear A1 h1
                go_wp2
                go_meet
                case rel => exact ⟨true, rfl, HK.out, rfl⟩
              · by_cases h2 : bs.getD k 0 = 69
                · have HK : Hid (Tst bs n k (fun c => c = 101 ∨ c = 69) true) := Iff.intro (fun _ => ⟨hlt, .inr h2⟩) (fun _ => rfl)
                  rw [h2] at hck
                  clear A1 h1 h2
                  go_wp2
                  go_meet
                  case rel => exact ⟨true, rfl, HK.out, rfl⟩
                · have HK : Hid (Tst bs n k (fun c => c = 101 ∨ c = 69) false) := Iff.intro (fun e => by cases e) (fun e => absurd e.2 (fun o => o.elim h1 h2))
                  have e1 : (bs.getD k 0 == 101) = false := by simpa using h1
                  have e2 : (bs.getD k 0 == 69) = false := by simpa using h2
                  clear A1 h1 h2
                  generalize bs.getD k 0 = y at hck e1 e2
                  go_wp2
                  go_meet
                  case rel => exact ⟨false, rfl, HK.out, rfl⟩
            · clear A1
              go_wp2
              go_meet
              case rel => exact ⟨false, rfl, tst_no hlt, rfl⟩
          case rest =>
            obtain ⟨d, rfl, hd, rfl⟩ := hcut
            have HD := hid hd
            clear hd
            go_upto_if 113 with fail
            go_cut [1] from 114 to 160 (fun s wc => ∃ k : Nat, k ≤ n ∧ s = .int .i64 k ∧ r = ((k : Int), true) ∧ w = wc)
            case first =>
              cases d with
              | false =>
                have H3 : Hid (r = ((k : Int), true)) := at_yes HL.out A1.out fun hk => by rw [f3, if_neg (fun e => by have := HD.out.2 ⟨hk, e⟩; cases this)]
                clear HD A1
                go_wp2
                go_meet
                case rel => exact ⟨k, hk, rfl, H3.out, rfl⟩
              | true =>
                obtain ⟨hlt, he⟩ := HD.out.1 rfl
                have H3 : Hid (r = M bs 6 (k + 1)) := at_next HL.out A1.out hlt 6 (by rw [f3, if_pos he]) (by decide)
                clear he HD A1
                go_upto_region 17 with fail
                go_cut [133] from 116 to 133 (fun t wc => ∃ d : Bool, t = .bool d ∧ Tst bs n (k + 1) (fun c => c = 43 ∨ c = 45) d ∧ w = wc)
                case first =>
                  by_cases hk1 : k + 1 < n
                  · have hck := HC.out (k + 1) (by rw [HL.out]; exact hk1)
                    by_cases h1 : bs.getD (k + 1) 0 = 43
                    · have HK : Hid (Tst bs n (k + 1) (fun c => c = 43 ∨ c = 45) true) := Iff.intro (fun _ => ⟨hk1, .inl h1⟩) (fun _ => rfl)
                      rw [h1] at hck
                      clear H3 h1
                      go_wp2
                      go_meet
                      case rel => exact ⟨true, rfl, HK.out, rfl⟩
                    · by_cases h2 : bs.getD (k + 1) 0 = 45
                      · have HK : Hid (Tst bs n (k + 1) (fun c => c = 43 ∨ c = 45) true) := Iff.intro (fun _ => ⟨hk1, .inr h2⟩) (fun _ => rfl)
                        rw [h2] at hck
                        clear H3 h1 h2
                        go_wp2
                        go_meet
                        case rel => exact ⟨true, rfl, HK.out, rfl⟩
                      · have HK : Hid (Tst bs n (k + 1) (fun c => c = 43 ∨ c = 45) false) := Iff.intro (fun e => by cases e) (fun e => absurd e.2 (fun o => o.elim h1 h2))
                        have e1 : (bs.getD (k + 1) 0 == 43) = false := by simpa using h1
                        have e2 : (bs.getD (k + 1) 0 == 45) = false := by simpa using h2
                        clear H3 h1 h2
                        generalize bs.getD (k + 1) 0 = y at hck e1 e2
                        go_wp2
                        go_meet
                        case rel => exact ⟨false, rfl, HK.out, rfl⟩
                  · clear H3
                    go_wp2
                    go_meet
                    case rel => exact ⟨false, rfl, tst_no hk1, rfl⟩
                case rest =>
                  obtain ⟨d, rfl, hd, rfl⟩ := hcut
                  have HD := hid hd
                  clear hd
                  go_upto_if 133 with fail
                  go_cut [1] from 134 to 135 (fun s wc => ∃ m : Nat, m ≤ n ∧ s = .int .i64 m ∧ At bs n r false f4 m ∧ w = wc)
                  case first =>
                    cases d with
                    | false =>
                      have H4 : Hid (At bs n r false f4 (k + 1)) := ⟨6, H3.out, rfl, fun hk => step6_f4 fun e => by have := HD.out.2 ⟨hk, e⟩; cases this⟩
                      clear HD H3
                      go_wp2
                      go_meet
                      case rel => exact ⟨k + 1, by omega, by go_num, H4.out, rfl⟩
                    | true =>
                      obtain ⟨hk1, he⟩ := HD.out.1 rfl
                      have H4 : Hid (At bs n r false f4 (k + 1 + 1)) := ⟨7, by rw [H3.out]; exact M_step bs 6 7 (k + 1) (by rw [HL.out]; exact hk1) (step6_sign he) (by decide), rfl, fun _ => step7_any _⟩
                      clear HD H3 he
                      go_wp2
                      go_meet
                      case rel => exact ⟨k + 1 + 1, by omega, by go_num, H4.out, rfl⟩
                  case rest =>
                    obtain ⟨m, hm, rfl, hat, rfl⟩ := hcut
                    have A1 := hid hat
                    clear hat HD H3 hk hlt
                    by_cases hmn : m < n
                    · have hck := HC.out m (by rw [HL.out]; exact hmn)
                      have hrng := HB.out m
                      have e1 : ((m : Int) == (n : Int)) = false := by simp; omega
                      by_cases hd : 48 ≤ bs.getD m 0 ∧ bs.getD m 0 ≤ 57
                      · have H5 : Hid (r = M bs 8 (m + 1)) := at_next HL.out A1.out hmn 8 (by rw [f4, if_pos hd]) (by decide)
                        have HD2 := hid hd
                        have d1 := hd.1
                        have d2 := hd.2
                        clear hd A1
                        generalize bs.getD m 0 = y at hck hrng d1 d2
                        go_wp2
                        clear hck d1 d2 hrng e1
                        go_loop [1] (fun s => ∃ j : Nat, m ≤ j ∧ j ≤ n ∧ s = .int .i64 j ∧ (j = m ∨ r = M bs 8 j)) (fun s => n - (intOf s).toNat)
                        case atStart => exact ⟨m, by omega, by omega, rfl, .inl rfl⟩
                        case round =>
                          obtain ⟨j, hj1, hj2, rfl, hor⟩ := hrel
                          have OR := hid hor
                          clear hor
                          by_cases hjn : j < n
                          · have hcj := HC.out j (by rw [HL.out]; exact hjn)
                            by_cases hdj : 48 ≤ bs.getD j 0 ∧ bs.getD j 0 ≤ 57
                            · have H4 : Hid (r = M bs 8 (j + 1)) := OR.out.elim (fun e => by rw [e]; exact H5.out) (fun e => digits_next HL.out e hjn (step8_dig hdj) (by decide))
                              have d1 := hdj.1
                              have d2 := hdj.2
                              clear hdj
                              generalize bs.getD j 0 = y at hcj d1 d2
                              go_wp2
                              go_round
                              case rel => exact ⟨j + 1, by omega, by omega, by go_num, .inr H4.out⟩
                              case measure => simp [intOf]; omega
                            · have H4 : Hid (r = ((j : Int), true)) := by show r = _; rw [OR.out.elim (fun e => absurd (by rw [e]; exact HD2.out) hdj) id, M_dead bs 8 j (fun _ => step8_no hdj)]; rfl
                              have hbb := HB.out j
                              by_cases hlo : 48 ≤ bs.getD j 0
                              · have d2 : 57 < bs.getD j 0 := by omega
                                clear hdj
                                generalize bs.getD j 0 = y at hcj hlo d2 hbb
                                go_wp2
                                go_meet
                                case rel => exact ⟨j, by omega, rfl, H4.out, rfl⟩
                              · clear hdj
                                generalize bs.getD j 0 = y at hcj hlo hbb
                                go_wp2
                                go_meet
                                case rel => exact ⟨j, by omega, rfl, H4.out, rfl⟩
                          · have H4 : Hid (r = ((j : Int), true)) := by show r = _; rw [OR.out.elim (fun e => by omega) id, M_stop bs 8 j (by rw [HL.out]; exact hjn)]; rfl
                            go_wp2
                            go_meet
                            case rel => exact ⟨j, by omega, rfl, H4.out, rfl⟩
                      · have H5 : Hid (r = (0, false)) := at_no HL.out A1.out (fun _ => by rw [f4, if_neg hd])
                        by_cases hlo : 48 ≤ bs.getD m 0
                        · have d2 : 57 < bs.getD m 0 := by omega
                          clear hd A1
                          generalize bs.getD m 0 = y at hck hrng hlo d2
                          have e2 : decide (y ≤ 57) = false := decide_eq_false (by omega)
                          go_wp2
                          go_ret2
                          exact ⟨by rw [H5.out]; rfl, rfl⟩
                        · clear hd A1
                          generalize bs.getD m 0 = y at hck hrng hlo
                          go_wp2
                          go_ret2
                          exact ⟨by rw [H5.out]; rfl, rfl⟩
                    · have H5 : Hid (r = (0, false)) := at_no HL.out A1.out (fun h => absurd h hmn)
                      obtain rfl : n = m := by omega
                      clear A1
                      go_wp2
                      go_ret2
                      exact ⟨by rw [H5.out]; rfl, rfl⟩
            case rest =>
              obtain ⟨m, hm, rfl, hr2, rfl⟩ := hcut
              have R2 := hid hr2
              clear hr2 A1 HD
              go_wp2
              go_ret2
              exact ⟨by rw [R2.out]; rfl, rfl⟩
end Go.Proofs.Qxb6001376aMods
