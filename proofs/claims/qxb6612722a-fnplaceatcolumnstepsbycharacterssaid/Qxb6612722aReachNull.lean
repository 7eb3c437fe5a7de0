/-
  A WALK OF zzReachable: the line starts at 0. (Typed by program.)
-/
import Derived.Test.Qxb6612722aBreak
import Derived.Deep.DeepCutAuto
namespace Go.Proofs.Qxb6612722a
open Go.RowKit

set_option maxRecDepth 100000 in
set_option maxHeartbeats 40000000 in
theorem reach_null (b off n cap j : Nat) (z : Nat → Int) (bom line : Int) (w : World) (hn : n ≤ 1048576) (hc : ∀ i, i < n → w.cell? ⟨b, off + i, none⟩ = some (.int .u8 (z i))) (hj : j < n) :
    Calls Try.prog 5 #[.slice (some ⟨b, off, none⟩) n cap, .int .i64 bom, .int .i64 line, .int .i64 0, .int .i64 ((j : Int) + 1)] w fun e w' => SomeBool e ∧ w = w' := by
  have HC : Hid _ := hc
  clear hc
  have b3 : decide ((j : Int) + 1 < 0) = false := by simp; omega
  have b4 : decide ((n : Int) < (j : Int) + 1) = false := by simp; omega
  go_enter Try.func5, Try.ntmps5
  go_wp2
  go_loop [13, 14] (fun c i => ∃ k s : Nat, k ≤ 0 ∧ s ≤ k + 1 ∧ i = .int .i64 k ∧ c = .int .i64 s) (fun _ i => 0 - (intOf i).toNat)
  case atStart => exact ⟨0, 1, by omega, by omega, rfl, rfl⟩
  case round =>
    obtain ⟨k, s, hk, hs, rfl, rfl⟩ := hrel
    go_upto_region 21 with fail
    have HQ : Hid True := trivial
    cases c1 : (line == (s : Int))
    · have c1' : (line != (s : Int)) = true := by simp [bne, c1]
      go_wp2
      go_ret
      exact ⟨⟨_, rfl⟩, rfl⟩
    · have c1' : (line != (s : Int)) = false := by simp [bne, c1]
      have hls : line = (s : Int) := by simpa using c1
      clear c1 c1'
      subst hls
      cases c2 : (bom == 0)
      · have c2' : (bom != 0) = true := by simp [bne, c2]
        cases c3 : decide (bom < 2)
        · cases c4 : (bom == (s : Int))
          · go_wp2
            go_loop [15] (fun i => ∃ k : Nat, k ≤ j + 1 ∧ i = .int .i64 k) (fun i => j + 1 - (intOf i).toNat)
            case atStart => exact ⟨0, by omega, by go_num⟩
            case round =>
              obtain ⟨k, hk, rfl⟩ := hrel
              by_cases hlt : k < j + 1
              · have q5 := HC.out k (by omega)
                cases hbk : isB (z k)
                · go_wp2_with fail
                  refine (isBreak_any (z k) w).mono ?_
                  rintro e w1 ⟨rfl, rfl⟩
                  rw [hbk]
                  go_wp2
                  go_round
                  case rel => exact ⟨k + 1, by omega, by go_num⟩
                  case measure => simp [intOf]; omega
                · go_wp2_with fail
                  refine (isBreak_any (z k) w).mono ?_
                  rintro e w1 ⟨rfl, rfl⟩
                  rw [hbk]
                  go_wp2
                  go_ret
                  exact ⟨⟨_, rfl⟩, rfl⟩
              · go_wp2
                go_ret
                exact ⟨⟨_, rfl⟩, rfl⟩
          · go_wp2
            go_ret
            exact ⟨⟨_, rfl⟩, rfl⟩
        · go_wp2
          go_ret
          exact ⟨⟨_, rfl⟩, rfl⟩
      · have c2' : (bom != 0) = false := by simp [bne, c2]
        cases c4 : (bom == (s : Int))
        · go_wp2
          go_loop [15] (fun i => ∃ k : Nat, k ≤ j + 1 ∧ i = .int .i64 k) (fun i => j + 1 - (intOf i).toNat)
          case atStart => exact ⟨0, by omega, by go_num⟩
          case round =>
            obtain ⟨k, hk, rfl⟩ := hrel
            by_cases hlt : k < j + 1
            · have q5 := HC.out k (by omega)
              cases hbk : isB (z k)
              · go_wp2_with fail
                refine (isBreak_any (z k) w).mono ?_
                rintro e w1 ⟨rfl, rfl⟩
                rw [hbk]
                go_wp2
                go_round
                case rel => exact ⟨k + 1, by omega, by go_num⟩
                case measure => simp [intOf]; omega
              · go_wp2_with fail
                refine (isBreak_any (z k) w).mono ?_
                rintro e w1 ⟨rfl, rfl⟩
                rw [hbk]
                go_wp2
                go_ret
                exact ⟨⟨_, rfl⟩, rfl⟩
            · go_wp2
              go_ret
              exact ⟨⟨_, rfl⟩, rfl⟩
        · go_wp2
          go_ret
          exact ⟨⟨_, rfl⟩, rfl⟩
end Go.Proofs.Qxb6612722a
