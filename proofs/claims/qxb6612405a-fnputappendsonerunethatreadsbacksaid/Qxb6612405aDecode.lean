/-
  THE WALK OF zzj1DecodeOne AT THE UTF-8 FORM OF ONE SCALAR VALUE.
-/
import Derived.Test.Qxb6612405aPutPlain
import Derived.Deep.QuietTactic
import Derived.BigQuiet
import Derived.WalkSmall
namespace Go.Proofs.Qxb6612405a
open Go.RowKit

theorem decode_one (a : Option Addr) (cap : Nat) (c : Int) (w : World) (h0 : 0 ≤ c) (h1 : c < 128) (hr : CRow w a 1 (fun i => .int .u8 ([c].getD i 0))) :
    Calls Try.prog 31 #[.slice a 1 cap] w fun e w' => e = .returned (.tuple #[.int .i32 c, .bool true]) ∧ Below w.heap.size w w' := by
  obtain hx | ⟨g1, o1, rfl, hg1, hc1⟩ := hr.2
  · omega
  have q0 : w.cell? ⟨g1, o1, none⟩ = some (.int .u8 c) := by simpa using hc1 0 (by omega)
  clear hr hc1
  go_enter Try.func31, Try.ntmps31
  go_wp2
  go_ret2
  exact ⟨rfl, Below.refl _ _⟩

set_option maxHeartbeats 1600000 in
theorem decode_two (a : Option Addr) (cap : Nat) (c : Int) (w : World) (h0 : 128 ≤ c) (h1 : c < 2048) (hr : CRow w a 2 (fun i => .int .u8 ([192 + c / 64, 128 + c % 64].getD i 0))) :
    Calls Try.prog 31 #[.slice a 2 cap] w fun e w' => e = .returned (.tuple #[.int .i32 c, .bool true]) ∧ Below w.heap.size w w' := by
  obtain hx | ⟨g1, o1, rfl, hg1, hc1⟩ := hr.2
  · omega
  have q0 : w.cell? ⟨g1, o1, none⟩ = some (.int .u8 (192 + c / 64)) := by simpa using hc1 0 (by omega)
  have q1 : w.cell? ⟨g1, o1 + 1, none⟩ = some (.int .u8 (128 + c % 64)) := by simpa using hc1 1 (by omega)
  clear hr hc1
  have e1 := and_31 (192 + c / 64) (by omega) (by omega)
  have e2 := and_63 (128 + c % 64) (by omega) (by omega)
  have d1 : (192 + c / 64) % 32 = c / 64 := by omega
  have d2 : (128 + c % 64) % 64 = c % 64 := by omega
  rw [d1] at e1
  rw [d2] at e2
  clear d1 d2
  have b1 : decide ((192 : Int) + c / 64 < 128) = false := by simp; omega
  go_enter Try.func31, Try.ntmps31
  go_wp2
  go_loop [6] (fun i => ∃ k : Nat, 1 ≤ k ∧ k ≤ 2 ∧ i = .int .i64 k) (fun i => 2 - (intOf i).toNat)
  case atStart => exact ⟨1, by omega, by omega, rfl⟩
  case round =>
    obtain ⟨k, hk1, hk2, rfl⟩ := hrel
    by_cases hlt : k < 2
    · obtain rfl : k = 1 := by omega
      go_wp2
      go_round
      case rel => exact ⟨2, by omega, by omega, by go_num⟩
      case measure => simp [intOf]
    · obtain rfl : k = 2 := by omega
      go_wp2
      rw [show c / 64 * 64 + c % 64 = c from by omega]
      go_ret2
      exact ⟨rfl, Below.refl _ _⟩

set_option maxRecDepth 100000 in
set_option maxHeartbeats 1600000 in
theorem decode_three (a : Option Addr) (cap : Nat) (c : Int) (w : World) (h0 : 2048 ≤ c) (h1 : c < 65536) (h2 : ¬ (55296 ≤ c ∧ c ≤ 57343)) (hr : CRow w a 3 (fun i => .int .u8 ([224 + c / 4096, 128 + c / 64 % 64, 128 + c % 64].getD i 0))) :
    Calls Try.prog 31 #[.slice a 3 cap] w fun e w' => e = .returned (.tuple #[.int .i32 c, .bool true]) ∧ Below w.heap.size w w' := by
  obtain hx | ⟨g1, o1, rfl, hg1, hc1⟩ := hr.2
  · omega
  have q0 : w.cell? ⟨g1, o1, none⟩ = some (.int .u8 (224 + c / 4096)) := by simpa using hc1 0 (by omega)
  have q1 : w.cell? ⟨g1, o1 + 1, none⟩ = some (.int .u8 (128 + c / 64 % 64)) := by simpa using hc1 1 (by omega)
  have q2 : w.cell? ⟨g1, o1 + 2, none⟩ = some (.int .u8 (128 + c % 64)) := by simpa using hc1 2 (by omega)
  clear hr hc1
  have e1 := and_15 (224 + c / 4096) (by omega) (by omega)
  have e2 := and_63 (128 + c / 64 % 64) (by omega) (by omega)
  have e3 := and_63 (128 + c % 64) (by omega) (by omega)
  rw [show (224 + c / 4096) % 16 = c / 4096 from by omega] at e1
  rw [show (128 + c / 64 % 64) % 64 = c / 64 % 64 from by omega] at e2
  rw [show (128 + c % 64) % 64 = c % 64 from by omega] at e3
  have b1 : decide ((224 : Int) + c / 4096 < 128) = false := by simp; omega
  go_enter Try.func31, Try.ntmps31
  go_wp2
  go_loop [6] (fun i => ∃ k : Nat, 1 ≤ k ∧ k ≤ 3 ∧ i = .int .i64 k) (fun i => 3 - (intOf i).toNat)
  case atStart => exact ⟨1, by omega, by omega, rfl⟩
  case round =>
    obtain ⟨k, hk1, hk2, rfl⟩ := hrel
    by_cases hlt : k < 3
    · obtain rfl | rfl : k = 1 ∨ k = 2 := by omega
      · go_wp2
        go_round
        case rel => exact ⟨2, by omega, by omega, by go_num⟩
        case measure => simp [intOf]
      · go_wp2
        go_round
        case rel => exact ⟨3, by omega, by omega, by go_num⟩
        case measure => simp [intOf]
    · obtain rfl : k = 3 := by omega
      go_wp2
      go_quiet (fail)
      rw [show c / 4096 * 4096 + c / 64 % 64 * 64 + c % 64 = c from by omega]
      by_cases d : c < 55296
      · go_wp2
        go_ret2
        exact ⟨rfl, below_drewN (Below.refl _ _) _⟩
      · have d' : 57343 < c := by omega
        go_wp2
        go_ret2
        exact ⟨rfl, below_drewN (Below.refl _ _) _⟩

set_option maxRecDepth 100000 in
set_option maxHeartbeats 1600000 in
theorem decode_four (a : Option Addr) (cap : Nat) (c : Int) (w : World) (h0 : 65536 ≤ c) (h1 : c ≤ 1114111) (hr : CRow w a 4 (fun i => .int .u8 ([240 + c / 262144, 128 + c / 4096 % 64, 128 + c / 64 % 64, 128 + c % 64].getD i 0))) :
    Calls Try.prog 31 #[.slice a 4 cap] w fun e w' => e = .returned (.tuple #[.int .i32 c, .bool true]) ∧ Below w.heap.size w w' := by
  obtain hx | ⟨g1, o1, rfl, hg1, hc1⟩ := hr.2
  · omega
  have q0 : w.cell? ⟨g1, o1, none⟩ = some (.int .u8 (240 + c / 262144)) := by simpa using hc1 0 (by omega)
  have q1 : w.cell? ⟨g1, o1 + 1, none⟩ = some (.int .u8 (128 + c / 4096 % 64)) := by simpa using hc1 1 (by omega)
  have q2 : w.cell? ⟨g1, o1 + 2, none⟩ = some (.int .u8 (128 + c / 64 % 64)) := by simpa using hc1 2 (by omega)
  have q3 : w.cell? ⟨g1, o1 + 3, none⟩ = some (.int .u8 (128 + c % 64)) := by simpa using hc1 3 (by omega)
  clear hr hc1
  have e1 := and_7 (240 + c / 262144) (by omega) (by omega)
  have e2 := and_63 (128 + c / 4096 % 64) (by omega) (by omega)
  have e3 := and_63 (128 + c / 64 % 64) (by omega) (by omega)
  have e4 := and_63 (128 + c % 64) (by omega) (by omega)
  rw [show (240 + c / 262144) % 8 = c / 262144 from by omega] at e1
  rw [show (128 + c / 4096 % 64) % 64 = c / 4096 % 64 from by omega] at e2
  rw [show (128 + c / 64 % 64) % 64 = c / 64 % 64 from by omega] at e3
  rw [show (128 + c % 64) % 64 = c % 64 from by omega] at e4
  have b1 : decide ((240 : Int) + c / 262144 < 128) = false := by simp; omega
  go_enter Try.func31, Try.ntmps31
  go_wp2
  go_loop [6] (fun i => ∃ k : Nat, 1 ≤ k ∧ k ≤ 4 ∧ i = .int .i64 k) (fun i => 4 - (intOf i).toNat)
  case atStart => exact ⟨1, by omega, by omega, rfl⟩
  case round =>
    obtain ⟨k, hk1, hk2, rfl⟩ := hrel
    by_cases hlt : k < 4
    · obtain rfl | rfl | rfl : k = 1 ∨ k = 2 ∨ k = 3 := by omega
      · go_wp2
        go_round
        case rel => exact ⟨2, by omega, by omega, by go_num⟩
        case measure => simp [intOf]
      · go_wp2
        go_round
        case rel => exact ⟨3, by omega, by omega, by go_num⟩
        case measure => simp [intOf]
      · go_wp2
        go_round
        case rel => exact ⟨4, by omega, by omega, by go_num⟩
        case measure => simp [intOf]
    · obtain rfl : k = 4 := by omega
      go_wp2
      go_quiet (fail)
      rw [show c / 262144 * 262144 + c / 4096 % 64 * 4096 + c / 64 % 64 * 64 + c % 64 = c from by omega]
      go_wp2
      go_ret2
      exact ⟨rfl, below_drewN (Below.refl _ _) _⟩

/-- zzj1DecodeOne at the UTF-8 form of a scalar value. -/
theorem decode_any (a : Option Addr) (n cap : Nat) (c : Int) (w : World) (h0 : 0 ≤ c) (h1 : c ≤ 1114111) (h2 : ¬ (55296 ≤ c ∧ c ≤ 57343)) (hn : n = (utf c).length) (hr : CRow w a n (fun i => .int .u8 ((utf c).getD i 0))) :
    Calls Try.prog 31 #[.slice a n cap] w fun e w' => e = .returned (.tuple #[.int .i32 c, .bool true]) ∧ Below w.heap.size w w' := by
  subst hn
  by_cases d3 : c < 128
  · rw [utf_one d3] at hr ⊢
    exact decode_one a cap c w h0 d3 hr
  by_cases d4 : c < 2048
  · rw [utf_two (by omega) d4] at hr ⊢
    exact decode_two a cap c w (by omega) d4 hr
  by_cases d5 : c < 65536
  · rw [utf_three (by omega) d5] at hr ⊢
    exact decode_three a cap c w (by omega) d5 h2 hr
  · rw [utf_four (by omega)] at hr ⊢
    exact decode_four a cap c w (by omega) h1 hr
end Go.Proofs.Qxb6612405a
