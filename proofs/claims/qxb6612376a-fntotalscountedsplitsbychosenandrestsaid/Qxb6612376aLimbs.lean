/-
  THE WALK OF limbTotal.
-/
import Derived.Test.Qxb6612376aRead
import Derived.Test.Qxb6612376aSumPlain
namespace Go.Proofs.Qxb6612376a
open Go.RowKit

set_option maxHeartbeats 1600000 in
theorem limbTotal_false (a0 a1 a2 a3 a4 : Option Addr) (n m c0 c1 c2 c3 c4 : Nat) (f fc : Nat → ByteArray) (hi lo ns : Nat → Int) (w : World) (hn : n ≤ 65536)
    (r0 : CRow w a0 n (fun i => .string (f i))) (r1 : CRow w a1 n (fun i => .int .u64 (hi i))) (r2 : CRow w a2 n (fun i => .int .u64 (lo i))) (r3 : CRow w a3 n (fun i => .int .i64 (ns i))) (r4 : CRow w a4 m (fun i => .string (fc i)))
    (whi : ∀ i, Word (hi i)) (wlo : ∀ i, Word (lo i)) :
    Calls Try.prog 16 #[.slice a0 n c0, .slice a1 n c1, .slice a2 n c2, .slice a3 n c3, .slice a4 m c4, .bool false] w fun e w' =>
      e = .returned (.tuple #[.int .u64 (tot (fun i => memb fc (f i) m) hi lo n / 18446744073709551616 % 18446744073709551616), .int .u64 (tot (fun i => memb fc (f i) m) hi lo n % 18446744073709551616), .int .i64 (wrap64 (limb (fun i => memb fc (f i) m) ns n))]) ∧ w' = w := by
  have R0 : Hid _ := r0.2
  have R1 : Hid _ := r1.2
  have R2 : Hid _ := r2.2
  have R3 : Hid _ := r3.2
  clear r0 r1 r2 r3
  go_enter Try.func16, Try.ntmps16
  go_wp2
  go_loop [15, 16, 17, 18, 19, 20] (fun s0 s1 s2 s3 s4 i => ∃ (k : Nat) (x0 x1 x2 x3 x4 : Int), k ≤ n ∧ i = .int .i64 k ∧ s0 = .int .u64 x0 ∧ s1 = .int .u64 x1 ∧ s2 = .int .u64 x2 ∧ s3 = .int .u64 x3 ∧ s4 = .int .i64 x4 ∧ 0 ≤ x0 ∧ 0 ≤ x1 ∧ 0 ≤ x2 ∧ 0 ≤ x3 ∧ x0 ≤ k * 4294967295 ∧ x1 ≤ k * 4294967295 ∧ x2 ≤ k * 4294967295 ∧ x3 ≤ k * 4294967295 ∧ LimbSt (fun i => memb fc (f i) m) hi lo ns k x0 x1 x2 x3 x4) (fun _ _ _ _ _ i => n - (intOf i).toNat)
  case atStart => exact ⟨0, 0, 0, 0, 0, 0, Nat.zero_le _, rfl, rfl, rfl, rfl, rfl, rfl, by omega, by omega, by omega, by omega, by omega, by omega, by omega, by omega, LimbSt.start _ _ _ _⟩
  case round =>
    obtain ⟨k, x0, x1, x2, x3, x4, hk, rfl, rfl, rfl, rfl, rfl, rfl, b0, b1, b2, b3, d0, d1, d2, d3, hst⟩ := hrel
    by_cases hlt : k < n
    · obtain h0 | ⟨g0, o0, rfl, hb0, hc0⟩ := R0.out
      · omega
      obtain h0 | ⟨g1, o1, rfl, hb1, hc1⟩ := R1.out
      · omega
      obtain h0 | ⟨g2, o2, rfl, hb2, hc2⟩ := R2.out
      · omega
      obtain h0 | ⟨g3, o3, rfl, hb3, hc3⟩ := R3.out
      · omega
      have q0 := hc0 k hlt
      have q1 := hc1 k hlt
      have q2 := hc2 k hlt
      have q3 := hc3 k hlt
      clear hc0 hc1 hc2 hc3 hb0 hb1 hb2 hb3 R0 R1 R2 R3
      obtain ⟨u0, u1⟩ := whi k
      obtain ⟨v0, v1⟩ := wlo k
      have m1 := and_mask (hi k) u0 u1
      have m2 := and_mask (lo k) v0 v1
      cases hm : memb fc (f k) m
      · go_wp2_with (go_at_call 18; refine (member_any a4 m c4 fc (f k) _ r4).mono ?_; rintro e w1 ⟨rfl, rfl⟩)
        go_round
        case rel => exact ⟨k + 1, x0, x1, x2, x3, x4, by omega, by go_num, rfl, rfl, rfl, rfl, rfl, b0, b1, b2, b3, by omega, by omega, by omega, by omega, hst.no hm⟩
        case measure => simp [intOf]; omega
      · go_wp2_with (go_at_call 18; refine (member_any a4 m c4 fc (f k) _ r4).mono ?_; rintro e w1 ⟨rfl, rfl⟩)
        go_round
        case rel => exact ⟨k + 1, _, _, _, _, _, by omega, by go_num, rfl, rfl, rfl, rfl, rfl, by omega, by omega, by omega, by omega, by omega, by omega, by omega, by omega, hst.yes hm⟩
        case measure => simp [intOf]; omega
    · obtain ⟨hT, hN⟩ := hst
      have hkn : k = n := by omega
      subst hkn
      have HT : Hid _ := hT
      have HN : Hid _ := hN
      clear hT hN
      go_wp2
      rw [join_words (x1 + x0 / 4294967296) x0 (by omega) (by omega) (by omega) (by omega), limb_end_lo HT.out,
        join_words (x3 + (x2 + (x1 + x0 / 4294967296) / 4294967296) / 4294967296) (x2 + (x1 + x0 / 4294967296) / 4294967296) (by omega) (by omega) (by omega) (by omega), limb_end_hi HT.out, HN.out]
      go_ret3
      exact ⟨rfl, rfl⟩

set_option maxHeartbeats 1600000 in
theorem limbTotal_true (a0 a1 a2 a3 a4 : Option Addr) (n m c0 c1 c2 c3 c4 : Nat) (f : Nat → ByteArray) (hi lo ns : Nat → Int) (w : World) (hn : n ≤ 65536)
    (r0 : CRow w a0 n (fun i => .string (f i))) (r1 : CRow w a1 n (fun i => .int .u64 (hi i))) (r2 : CRow w a2 n (fun i => .int .u64 (lo i))) (r3 : CRow w a3 n (fun i => .int .i64 (ns i)))
    (whi : ∀ i, Word (hi i)) (wlo : ∀ i, Word (lo i)) :
    Calls Try.prog 16 #[.slice a0 n c0, .slice a1 n c1, .slice a2 n c2, .slice a3 n c3, .slice a4 m c4, .bool true] w fun e w' =>
      e = .returned (.tuple #[.int .u64 (tot (fun _ => true) hi lo n / 18446744073709551616 % 18446744073709551616), .int .u64 (tot (fun _ => true) hi lo n % 18446744073709551616), .int .i64 (wrap64 (limb (fun _ => true) ns n))]) ∧ w' = w := by
  have R0 : Hid _ := r0.2
  have R1 : Hid _ := r1.2
  have R2 : Hid _ := r2.2
  have R3 : Hid _ := r3.2
  clear r0 r1 r2 r3
  go_enter Try.func16, Try.ntmps16
  go_wp2
  go_loop [15, 16, 17, 18, 19, 20] (fun s0 s1 s2 s3 s4 i => ∃ (k : Nat) (x0 x1 x2 x3 x4 : Int), k ≤ n ∧ i = .int .i64 k ∧ s0 = .int .u64 x0 ∧ s1 = .int .u64 x1 ∧ s2 = .int .u64 x2 ∧ s3 = .int .u64 x3 ∧ s4 = .int .i64 x4 ∧ 0 ≤ x0 ∧ 0 ≤ x1 ∧ 0 ≤ x2 ∧ 0 ≤ x3 ∧ x0 ≤ k * 4294967295 ∧ x1 ≤ k * 4294967295 ∧ x2 ≤ k * 4294967295 ∧ x3 ≤ k * 4294967295 ∧ LimbSt (fun _ => true) hi lo ns k x0 x1 x2 x3 x4) (fun _ _ _ _ _ i => n - (intOf i).toNat)
  case atStart => exact ⟨0, 0, 0, 0, 0, 0, Nat.zero_le _, rfl, rfl, rfl, rfl, rfl, rfl, by omega, by omega, by omega, by omega, by omega, by omega, by omega, by omega, LimbSt.start _ _ _ _⟩
  case round =>
    obtain ⟨k, x0, x1, x2, x3, x4, hk, rfl, rfl, rfl, rfl, rfl, rfl, b0, b1, b2, b3, d0, d1, d2, d3, hst⟩ := hrel
    by_cases hlt : k < n
    · obtain h0 | ⟨g0, o0, rfl, hb0, hc0⟩ := R0.out
      · omega
      obtain h0 | ⟨g1, o1, rfl, hb1, hc1⟩ := R1.out
      · omega
      obtain h0 | ⟨g2, o2, rfl, hb2, hc2⟩ := R2.out
      · omega
      obtain h0 | ⟨g3, o3, rfl, hb3, hc3⟩ := R3.out
      · omega
      have q0 := hc0 k hlt
      have q1 := hc1 k hlt
      have q2 := hc2 k hlt
      have q3 := hc3 k hlt
      clear hc0 hc1 hc2 hc3 hb0 hb1 hb2 hb3 R0 R1 R2 R3
      obtain ⟨u0, u1⟩ := whi k
      obtain ⟨v0, v1⟩ := wlo k
      have m1 := and_mask (hi k) u0 u1
      have m2 := and_mask (lo k) v0 v1
      go_wp2
      go_round
      case rel => exact ⟨k + 1, _, _, _, _, _, by omega, by go_num, rfl, rfl, rfl, rfl, rfl, by omega, by omega, by omega, by omega, by omega, by omega, by omega, by omega, hst.yes rfl⟩
      case measure => simp [intOf]; omega
    · obtain ⟨hT, hN⟩ := hst
      have hkn : k = n := by omega
      subst hkn
      have HT : Hid _ := hT
      have HN : Hid _ := hN
      clear hT hN
      go_wp2
      rw [join_words (x1 + x0 / 4294967296) x0 (by omega) (by omega) (by omega) (by omega), limb_end_lo HT.out,
        join_words (x3 + (x2 + (x1 + x0 / 4294967296) / 4294967296) / 4294967296) (x2 + (x1 + x0 / 4294967296) / 4294967296) (by omega) (by omega) (by omega) (by omega), limb_end_hi HT.out, HN.out]
      go_ret3
      exact ⟨rfl, rfl⟩
end Go.Proofs.Qxb6612376a
