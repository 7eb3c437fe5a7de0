/-
  THE WALKS OF zzBytes_Fn.. (both texts are the same): it comes back with some bool.
-/
import Derived.Test.Qxb6612376aRead
namespace Go.Proofs.Qxb6612376a
open Go.RowKit

/-- It came back with some bool (under a name: the walk would write an open 'for some bool' as an 'or'). -/
def SomeBool (e : Ending) : Prop := ∃ r : Bool, e = .returned (.bool r)

set_option maxHeartbeats 1600000 in
theorem zzbytes12_any (a0 a1 a2 a3 a4 : Option Addr) (n0 n1 n2 n3 n4 c0 c1 c2 c3 c4 : Nat) (f0 f4 : Nat → ByteArray) (w : World) (hr0 : CRow w a0 n0 (fun i => .string (f0 i))) (hr4 : CRow w a4 n4 (fun i => .string (f4 i))) :
    Calls Try.prog 12 #[.slice a0 n0 c0, .slice a1 n1 c1, .slice a2 n2 c2, .slice a3 n3 c3, .slice a4 n4 c4] w fun e w' => SomeBool e ∧ w' = w := by
  obtain ⟨hn0, hr0⟩ := hr0
  obtain ⟨hn4, hr4⟩ := hr4
  have HR0 : Hid _ := hr0
  have HR4 : Hid _ := hr4
  clear hr0 hr4
  go_enter Try.func12, Try.ntmps12
  go_wp2
  all_goals try (go_ret; exact ⟨⟨_, rfl⟩, rfl⟩)
  go_loop [11, 12] (fun t i => ∃ (k : Nat) (T : Int), k ≤ n0 ∧ i = .int .i64 k ∧ t = .int .i64 T) (fun _ i => n0 - (intOf i).toNat)
  case atStart => exact ⟨0, _, Nat.zero_le _, rfl, rfl⟩
  case round =>
    obtain ⟨k, T, hk, rfl, rfl⟩ := hrel
    by_cases hlt : k < n0
    · obtain h0 | ⟨b, off, rfl, hb, hc⟩ := HR0.out
      · omega
      have hck := hc k hlt
      clear hc HR0 hb HR4
      go_wp2
      all_goals try (go_ret; exact ⟨⟨_, rfl⟩, rfl⟩)
      go_round
      case rel => exact ⟨k + 1, _, by omega, by go_num, rfl⟩
      case measure => simp [intOf]; omega
    · clear HR0
      go_wp2
      all_goals try (go_ret; exact ⟨⟨_, rfl⟩, rfl⟩)
      go_loop [11, 13] (fun t i => ∃ (k : Nat) (T : Int), k ≤ n4 ∧ i = .int .i64 k ∧ t = .int .i64 T) (fun _ i => n4 - (intOf i).toNat)
      case atStart => exact ⟨0, _, Nat.zero_le _, rfl, rfl⟩
      case round =>
        obtain ⟨k', T', hk', rfl, rfl⟩ := hrel
        by_cases hlt' : k' < n4
        · obtain h0 | ⟨b, off, rfl, hb, hc⟩ := HR4.out
          · omega
          have hck := hc k' hlt'
          clear hc HR4 hb
          go_wp2
          all_goals try (go_ret; exact ⟨⟨_, rfl⟩, rfl⟩)
          go_round
          case rel => exact ⟨k' + 1, _, by omega, by go_num, rfl⟩
          case measure => simp [intOf]; omega
        · go_wp2
          go_ret
          exact ⟨⟨_, rfl⟩, rfl⟩

set_option maxHeartbeats 1600000 in
theorem zzbytes17_any (a0 a1 a2 a3 a4 : Option Addr) (n0 n1 n2 n3 n4 c0 c1 c2 c3 c4 : Nat) (f0 f4 : Nat → ByteArray) (w : World) (hr0 : CRow w a0 n0 (fun i => .string (f0 i))) (hr4 : CRow w a4 n4 (fun i => .string (f4 i))) :
    Calls Try.prog 17 #[.slice a0 n0 c0, .slice a1 n1 c1, .slice a2 n2 c2, .slice a3 n3 c3, .slice a4 n4 c4] w fun e w' => SomeBool e ∧ w' = w := by
  obtain ⟨hn0, hr0⟩ := hr0
  obtain ⟨hn4, hr4⟩ := hr4
  have HR0 : Hid _ := hr0
  have HR4 : Hid _ := hr4
  clear hr0 hr4
  go_enter Try.func17, Try.ntmps17
  go_wp2
  all_goals try (go_ret; exact ⟨⟨_, rfl⟩, rfl⟩)
  go_loop [11, 12] (fun t i => ∃ (k : Nat) (T : Int), k ≤ n0 ∧ i = .int .i64 k ∧ t = .int .i64 T) (fun _ i => n0 - (intOf i).toNat)
  case atStart => exact ⟨0, _, Nat.zero_le _, rfl, rfl⟩
  case round =>
    obtain ⟨k, T, hk, rfl, rfl⟩ := hrel
    by_cases hlt : k < n0
    · obtain h0 | ⟨b, off, rfl, hb, hc⟩ := HR0.out
      · omega
      have hck := hc k hlt
      clear hc HR0 hb HR4
      go_wp2
      all_goals try (go_ret; exact ⟨⟨_, rfl⟩, rfl⟩)
      go_round
      case rel => exact ⟨k + 1, _, by omega, by go_num, rfl⟩
      case measure => simp [intOf]; omega
    · clear HR0
      go_wp2
      all_goals try (go_ret; exact ⟨⟨_, rfl⟩, rfl⟩)
      go_loop [11, 13] (fun t i => ∃ (k : Nat) (T : Int), k ≤ n4 ∧ i = .int .i64 k ∧ t = .int .i64 T) (fun _ i => n4 - (intOf i).toNat)
      case atStart => exact ⟨0, _, Nat.zero_le _, rfl, rfl⟩
      case round =>
        obtain ⟨k', T', hk', rfl, rfl⟩ := hrel
        by_cases hlt' : k' < n4
        · obtain h0 | ⟨b, off, rfl, hb, hc⟩ := HR4.out
          · omega
          have hck := hc k' hlt'
          clear hc HR4 hb
          go_wp2
          all_goals try (go_ret; exact ⟨⟨_, rfl⟩, rfl⟩)
          go_round
          case rel => exact ⟨k' + 1, _, by omega, by go_num, rfl⟩
          case measure => simp [intOf]; omega
        · go_wp2
          go_ret
          exact ⟨⟨_, rfl⟩, rfl⟩

end Go.Proofs.Qxb6612376a
