/-
  A WALK OF zzReachable: the line starts at 3. (Typed by program.)
-/
import Derived.Test.Qxb6612722aBreak
import Derived.Deep.DeepCutAuto
namespace Go.Proofs.Qxb6612722a
open Go.RowKit

set_option maxRecDepth 100000 in
set_option maxHeartbeats 40000000 in
theorem reach_three (b off n cap j : Nat) (z : Nat → Int) (bom line : Int) (w : World) (hn : n ≤ 1048576) (hc : ∀ i, i < n → w.cell? ⟨b, off + i, none⟩ = some (.int .u8 (z i))) (hj : j < n) (hm : 3 ≤ j) :
    Calls Try.prog 5 #[.slice (some ⟨b, off, none⟩) n cap, .int .i64 bom, .int .i64 line, .int .i64 3, .int .i64 ((j : Int) + 1)] w fun e w' => SomeBool e ∧ w = w' := by
  have HC : Hid _ := hc
  clear hc
  have b3 : decide ((j : Int) + 1 < 3) = false := by simp; omega
  have b4 : decide ((n : Int) < (j : Int) + 1) = false := by simp; omega
  go_enter Try.func5, Try.ntmps5
  go_upto_region 5 with fail
  go_cut [55] (fun v wx => SomeB v ∧ w = wx)
  case first =>
    have q1 : w.cell? ⟨b, off, none⟩ = _ := HC.out 0 (by omega)
    have q2 := HC.out (1) (by omega)
    have q3 := HC.out (2) (by omega)
    cases e1 : (z (0) == 239)
    · go_wp2
      go_meet
      exact ⟨⟨_, rfl⟩, rfl⟩
    · cases e2 : (z (1) == 187)
      · go_wp2
        go_meet
        exact ⟨⟨_, rfl⟩, rfl⟩
      · cases e3 : (z (2) == 191)
        · go_wp2
          go_meet
          exact ⟨⟨_, rfl⟩, rfl⟩
        · go_wp2
          go_meet
          exact ⟨⟨_, rfl⟩, rfl⟩
  case rest =>
    obtain ⟨⟨r, rfl⟩, rfl⟩ := hcut
    cases r
    · go_upto_if 59 with fail
      go_cut [11] (fun v wx => v = .int .i64 3 ∧ w = wx)
      case first =>
        have q1 := HC.out (2) (by omega)
        have q2 := HC.out (3) (by omega)
        cases e10 : (z (2) == 10)
        · cases e13 : (z (2) == 13)
          · have e4 : isB (z (2)) = false := by simp [isB, e10, e13]
            go_wp2_with fail
            refine (isBreak_any (z (2)) w).mono ?_
            rintro e w1 ⟨rfl, rfl⟩
            rw [e4]
            go_wp2
            go_ret
            exact ⟨⟨_, rfl⟩, rfl⟩
          · have e4 : isB (z (2)) = true := by simp [isB, e10, e13]
            cases e5 : (z (3) == 10)
            · go_wp2_with fail
              refine (isBreak_any (z (2)) w).mono ?_
              rintro e w1 ⟨rfl, rfl⟩
              rw [e4]
              go_wp2
              go_meet
              exact ⟨congrArg (Value.int .i64) (by omega), rfl⟩
            · go_wp2_with fail
              refine (isBreak_any (z (2)) w).mono ?_
              rintro e w1 ⟨rfl, rfl⟩
              rw [e4]
              go_wp2
              go_ret
              exact ⟨⟨_, rfl⟩, rfl⟩
        · have e6 : z (2) = 10 := by simpa using e10
          have e13 : (z (2) == 13) = false := by rw [e6]; rfl
          have e4 : isB (z (2)) = true := by simp [isB, e10]
          clear e6
          go_wp2_with fail
          refine (isBreak_any (z (2)) w).mono ?_
          rintro e w1 ⟨rfl, rfl⟩
          rw [e4]
          go_wp2
          go_meet
          exact ⟨congrArg (Value.int .i64) (by omega), rfl⟩
      case rest =>
        obtain ⟨rfl, rfl⟩ := hcut
        go_wp2
        go_loop [13, 14] (fun c i => ∃ k s : Nat, k ≤ 3 ∧ s ≤ k + 1 ∧ i = .int .i64 k ∧ c = .int .i64 s) (fun _ i => 3 - (intOf i).toNat)
        case atStart => exact ⟨0, 1, by omega, by omega, rfl, rfl⟩
        case round =>
          obtain ⟨k, s, hk, hs, rfl, rfl⟩ := hrel
          by_cases hlt : k < 3
          · have q3 := HC.out k (by omega)
            have q4 := HC.out (k + 1) (by omega)
            cases d1 : (z k == 10)
            · cases d2 : (z k == 13)
              · go_wp2
                go_round
                case rel => exact ⟨k + 1, s, by omega, by omega, by go_num, rfl⟩
                case measure => simp [intOf]; omega
              · have d4 : decide ((n : Int) ≤ (k : Int) + 1) = false := by simp; omega
                cases d3 : (z (k + 1) == 10)
                · have d3' : (z (k + 1) != 10) = true := by simp [bne, d3]
                  go_wp2
                  go_round
                  case rel => exact ⟨k + 1, s + 1, by omega, by omega, by go_num, by go_num⟩
                  case measure => simp [intOf]; omega
                · have d3' : (z (k + 1) != 10) = false := by simp [bne, d3]
                  go_wp2
                  go_round
                  case rel => exact ⟨k + 1, s, by omega, by omega, by go_num, rfl⟩
                  case measure => simp [intOf]; omega
            · go_wp2
              go_round
              case rel => exact ⟨k + 1, s + 1, by omega, by omega, by go_num, by go_num⟩
              case measure => simp [intOf]; omega
          · go_upto_region 21 with fail
            have HQ : Hid True := trivial
            cases c1 : (line == (s : Int))
            · have c1' : (line != (s : Int)) = true := by simp [bne, c1]
              go_wp2
              go_ret
              exact ⟨⟨_, rfl⟩, rfl⟩
            · have c1' : (line != (s : Int)) = false := by simp [bne, c1]
              have hls : line = (s : Int) := by simpa using c1
              clear c1 c1'
              subst hls
              cases c2 : (bom == 0)
              · have c2' : (bom != 0) = true := by simp [bne, c2]
                cases c3 : decide (bom < 2)
                · cases c4 : (bom == (s : Int))
                  · go_wp2
                    go_loop [15] (fun i => ∃ k : Nat, k ≤ j + 1 ∧ i = .int .i64 k) (fun i => j + 1 - (intOf i).toNat)
                    case atStart => exact ⟨3, by omega, by go_num⟩
                    case round =>
                      obtain ⟨k, hk, rfl⟩ := hrel
                      by_cases hlt : k < j + 1
                      · have q5 := HC.out k (by omega)
                        cases hbk : isB (z k)
                        · go_wp2_with fail
                          refine (isBreak_any (z k) w).mono ?_
                          rintro e w1 ⟨rfl, rfl⟩
                          rw [hbk]
                          go_wp2
                          go_round
                          case rel => exact ⟨k + 1, by omega, by go_num⟩
                          case measure => simp [intOf]; omega
                        · go_wp2_with fail
                          refine (isBreak_any (z k) w).mono ?_
                          rintro e w1 ⟨rfl, rfl⟩
                          rw [hbk]
                          go_wp2
                          go_ret
                          exact ⟨⟨_, rfl⟩, rfl⟩
                      · go_wp2
                        go_ret
                        exact ⟨⟨_, rfl⟩, rfl⟩
                  · go_wp2
                    go_ret
                    exact ⟨⟨_, rfl⟩, rfl⟩
                · go_wp2
                  go_ret
                  exact ⟨⟨_, rfl⟩, rfl⟩
              · have c2' : (bom != 0) = false := by simp [bne, c2]
                cases c4 : (bom == (s : Int))
                · go_wp2
                  go_loop [15] (fun i => ∃ k : Nat, k ≤ j + 1 ∧ i = .int .i64 k) (fun i => j + 1 - (intOf i).toNat)
                  case atStart => exact ⟨3, by omega, by go_num⟩
                  case round =>
                    obtain ⟨k, hk, rfl⟩ := hrel
                    by_cases hlt : k < j + 1
                    · have q5 := HC.out k (by omega)
                      cases hbk : isB (z k)
                      · go_wp2_with fail
                        refine (isBreak_any (z k) w).mono ?_
                        rintro e w1 ⟨rfl, rfl⟩
                        rw [hbk]
                        go_wp2
                        go_round
                        case rel => exact ⟨k + 1, by omega, by go_num⟩
                        case measure => simp [intOf]; omega
                      · go_wp2_with fail
                        refine (isBreak_any (z k) w).mono ?_
                        rintro e w1 ⟨rfl, rfl⟩
                        rw [hbk]
                        go_wp2
                        go_ret
                        exact ⟨⟨_, rfl⟩, rfl⟩
                    · go_wp2
                      go_ret
                      exact ⟨⟨_, rfl⟩, rfl⟩
                · go_wp2
                  go_ret
                  exact ⟨⟨_, rfl⟩, rfl⟩
    · go_wp2
      go_loop [13, 14] (fun c i => ∃ k s : Nat, k ≤ 0 ∧ s ≤ k + 1 ∧ i = .int .i64 k ∧ c = .int .i64 s) (fun _ i => 0 - (intOf i).toNat)
      case atStart => exact ⟨0, 1, by omega, by omega, rfl, rfl⟩
      case round =>
        obtain ⟨k, s, hk, hs, rfl, rfl⟩ := hrel
        go_upto_region 21 with fail
        have HQ : Hid True := trivial
        cases c1 : (line == (s : Int))
        · have c1' : (line != (s : Int)) = true := by simp [bne, c1]
          go_wp2
          go_ret
          exact ⟨⟨_, rfl⟩, rfl⟩
        · have c1' : (line != (s : Int)) = false := by simp [bne, c1]
          have hls : line = (s : Int) := by simpa using c1
          clear c1 c1'
          subst hls
          cases c2 : (bom == 0)
          · have c2' : (bom != 0) = true := by simp [bne, c2]
            cases c3 : decide (bom < 2)
            · cases c4 : (bom == (s : Int))
              · by_cases c5 : 2 ≤ s
                · omega
                · have c5a : decide (2 ≤ s) = false := by simp; omega
                  have c5b : decide (2 ≤ (s : Int)) = false := by simp; omega
                  go_wp2
                  go_loop [15] (fun i => ∃ k : Nat, k ≤ j + 1 ∧ i = .int .i64 k) (fun i => j + 1 - (intOf i).toNat)
                  case atStart => exact ⟨3, by omega, by go_num⟩
                  case round =>
                    obtain ⟨k, hk, rfl⟩ := hrel
                    by_cases hlt : k < j + 1
                    · have q5 := HC.out k (by omega)
                      cases hbk : isB (z k)
                      · go_wp2_with fail
                        refine (isBreak_any (z k) w).mono ?_
                        rintro e w1 ⟨rfl, rfl⟩
                        rw [hbk]
                        go_wp2
                        go_round
                        case rel => exact ⟨k + 1, by omega, by go_num⟩
                        case measure => simp [intOf]; omega
                      · go_wp2_with fail
                        refine (isBreak_any (z k) w).mono ?_
                        rintro e w1 ⟨rfl, rfl⟩
                        rw [hbk]
                        go_wp2
                        go_ret
                        exact ⟨⟨_, rfl⟩, rfl⟩
                    · go_wp2
                      go_ret
                      exact ⟨⟨_, rfl⟩, rfl⟩
              · by_cases c5 : 2 ≤ s
                · omega
                · have c5a : decide (2 ≤ s) = false := by simp; omega
                  have c5b : decide (2 ≤ (s : Int)) = false := by simp; omega
                  go_wp2
                  go_ret
                  exact ⟨⟨_, rfl⟩, rfl⟩
            · go_wp2
              go_ret
              exact ⟨⟨_, rfl⟩, rfl⟩
          · have c2' : (bom != 0) = false := by simp [bne, c2]
            cases c4 : (bom == (s : Int))
            · by_cases c5 : 2 ≤ s
              · omega
              · have c5a : decide (2 ≤ s) = false := by simp; omega
                have c5b : decide (2 ≤ (s : Int)) = false := by simp; omega
                go_wp2
                go_loop [15] (fun i => ∃ k : Nat, k ≤ j + 1 ∧ i = .int .i64 k) (fun i => j + 1 - (intOf i).toNat)
                case atStart => exact ⟨3, by omega, by go_num⟩
                case round =>
                  obtain ⟨k, hk, rfl⟩ := hrel
                  by_cases hlt : k < j + 1
                  · have q5 := HC.out k (by omega)
                    cases hbk : isB (z k)
                    · go_wp2_with fail
                      refine (isBreak_any (z k) w).mono ?_
                      rintro e w1 ⟨rfl, rfl⟩
                      rw [hbk]
                      go_wp2
                      go_round
                      case rel => exact ⟨k + 1, by omega, by go_num⟩
                      case measure => simp [intOf]; omega
                    · go_wp2_with fail
                      refine (isBreak_any (z k) w).mono ?_
                      rintro e w1 ⟨rfl, rfl⟩
                      rw [hbk]
                      go_wp2
                      go_ret
                      exact ⟨⟨_, rfl⟩, rfl⟩
                  · go_wp2
                    go_ret
                    exact ⟨⟨_, rfl⟩, rfl⟩
            · by_cases c5 : 2 ≤ s
              · omega
              · have c5a : decide (2 ≤ s) = false := by simp; omega
                have c5b : decide (2 ≤ (s : Int)) = false := by simp; omega
                go_wp2
                go_ret
                exact ⟨⟨_, rfl⟩, rfl⟩
end Go.Proofs.Qxb6612722a
