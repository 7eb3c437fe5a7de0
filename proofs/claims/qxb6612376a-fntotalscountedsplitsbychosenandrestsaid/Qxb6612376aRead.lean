/-
  WALKS OF THE FUNCTIONS THAT ONLY READ SLICES OF STRINGS: member, slices.Index, slices.Contains, stringsBytes.
-/
import Derived.Test.Qxb6612376aSums
namespace Go.Proofs.Qxb6612376a
open Go.RowKit

/-- A slice value's elements: n cells behind its address (nothing is known of the address where n = 0), cell i holding 'f i'. -/
def CRow (w : World) (ao : Option Addr) (n : Nat) (f : Nat → Value) : Prop :=
  n ≤ 9223372036854775807 ∧ (n = 0 ∨ ∃ b off, ao = some ⟨b, off, none⟩ ∧ b < w.heap.size ∧ ∀ i, i < n → w.cell? ⟨b, off + i, none⟩ = some (f i))

theorem CRow.later {w w' : World} {ao : Option Addr} {n : Nat} {f : Nat → Value} (h : CRow w ao n f) (hb : Below w.heap.size w w') : CRow w' ao n f := by
  obtain ⟨h0, h⟩ := h
  refine ⟨h0, ?_⟩
  rcases h with h | ⟨b, off, rfl, hlt, hc⟩
  · exact .inl h
  · exact .inr ⟨b, off, rfl, Nat.lt_of_lt_of_le hlt hb.size, fun i hi => cell_later hb (hc i hi)⟩

/-- Is s among the first n of f? -/
def memb (f : Nat → ByteArray) (s : ByteArray) : Nat → Bool
  | 0 => false
  | n + 1 => memb f s n || ((f n).toList == s.toList)

theorem memb_hit {f : Nat → ByteArray} {s : ByteArray} {k n : Nat} (hk : k < n) (h : ((f k).toList == s.toList) = true) : memb f s n = true := by
  induction n with
  | zero => omega
  | succ m ih =>
    by_cases e : k = m
    · subst e; simp [memb, h]
    · simp [memb, ih (by omega)]
theorem memb_miss {f : Nat → ByteArray} {s : ByteArray} {k : Nat} (hm : memb f s k = false) (h : ((f k).toList == s.toList) = false) : memb f s (k + 1) = false := by
  simp [memb, hm, h]

set_option maxHeartbeats 400000 in
theorem member_any (ao : Option Addr) (n cap : Nat) (f : Nat → ByteArray) (s : ByteArray) (w : World) (hr : CRow w ao n (fun i => .string (f i))) :
    Calls Try.prog 18 #[.slice ao n cap, .string s] w fun e w' => e = .returned (.bool (memb f s n)) ∧ w' = w := by
  obtain ⟨hn, hr⟩ := hr
  have HR : Hid _ := hr
  clear hr
  go_enter Try.func18, Try.ntmps18
  go_wp2
  go_loop [5] (fun i => ∃ k : Nat, k ≤ n ∧ i = .int .i64 k ∧ memb f s k = false) (fun i => n - (intOf i).toNat)
  case atStart => exact ⟨0, Nat.zero_le _, rfl, rfl⟩
  case round =>
    obtain ⟨k, hk, rfl, hm⟩ := hrel
    have HM : Hid _ := hm
    clear hm
    by_cases hlt : k < n
    · obtain h0 | ⟨b, off, rfl, hb, hc⟩ := HR.out
      · omega
      have hck := hc k hlt
      clear hc HR hb
      go_wp2
      · go_ret
        rw [memb_hit hlt (by assumption)]
        exact ⟨rfl, rfl⟩
      · go_round
        case rel => exact ⟨k + 1, by omega, by go_num, memb_miss HM.out (by assumption)⟩
        case measure => simp [intOf]; omega
    · go_wp2
      go_ret
      rw [show n = k from by omega, HM.out]
      exact ⟨rfl, rfl⟩

theorem beq_swap (a b : List UInt8) : (a == b) = (b == a) := by
  by_cases h : a = b
  · subst h; rfl
  · have h' : ¬ b = a := fun e => h e.symm
    rw [beq_eq_false_iff_ne.2 h, beq_eq_false_iff_ne.2 h']

set_option maxHeartbeats 400000 in
/-- slices.Index at []string: at least as much of it as Contains asks. -/
theorem index_any (ao : Option Addr) (n cap : Nat) (f : Nat → ByteArray) (s : ByteArray) (w : World) (hr : CRow w ao n (fun i => .string (f i))) :
    Calls Try.prog 27 #[.slice ao n cap, .string s] w fun e w' => ∃ r : Int, e = .returned (.int .i64 r) ∧ ((0 ≤ r ∧ memb f s n = true) ∨ (r < 0 ∧ memb f s n = false)) ∧ w' = w := by
  obtain ⟨hn, hr⟩ := hr
  have HR : Hid _ := hr
  clear hr
  go_enter Try.func27, Try.ntmps27
  go_wp2
  go_loop [8] (fun i => ∃ k : Nat, k ≤ n ∧ i = .int .i64 k ∧ memb f s k = false) (fun i => n - (intOf i).toNat)
  case atStart => exact ⟨0, Nat.zero_le _, rfl, rfl⟩
  case round =>
    obtain ⟨k, hk, rfl, hm⟩ := hrel
    have HM : Hid _ := hm
    clear hm
    by_cases hlt : k < n
    · obtain h0 | ⟨b, off, rfl, hb, hc⟩ := HR.out
      · omega
      have hck := hc k hlt
      clear hc HR hb
      go_wp2
      · go_ret
        exact ⟨k, rfl, .inl ⟨by omega, memb_hit hlt (by rw [beq_swap]; assumption)⟩, rfl⟩
      · go_round
        case rel => exact ⟨k + 1, by omega, by go_num, memb_miss HM.out (by rw [beq_swap]; assumption)⟩
        case measure => simp [intOf]; omega
    · go_wp2
      go_ret
      exact ⟨-1, rfl, .inr ⟨by omega, by rw [show n = k from by omega, HM.out]⟩, rfl⟩

/-- slices.Contains at []string. -/
theorem contains_any (ao : Option Addr) (n cap : Nat) (f : Nat → ByteArray) (s : ByteArray) (w : World) (hr : CRow w ao n (fun i => .string (f i))) :
    Calls Try.prog 24 #[.slice ao n cap, .string s] w fun e w' => e = .returned (.bool (memb f s n)) ∧ w' = w := by
  go_enter Try.func24, Try.ntmps24
  go_wp2_with fail
  refine (index_any ao n cap f s _ hr).mono ?_
  rintro e w1 ⟨r, rfl, hr', rfl⟩
  rcases hr' with ⟨h0, hm⟩ | ⟨h0, hm⟩
  · have HM : Hid _ := hm
    clear hm
    go_wp2
    go_ret
    rw [HM.out]
    exact ⟨rfl, rfl⟩
  · have HM : Hid _ := hm
    have hd : decide (0 ≤ r) = false := by simp; omega
    clear hm
    go_wp2
    go_ret
    rw [HM.out]
    exact ⟨by simp, rfl⟩

/-- ZZcountedIn's closure: membership in the captured slice. -/
theorem closure_any (c : Nat) (ao : Option Addr) (n cap : Nat) (f : Nat → ByteArray) (s : ByteArray) (w : World) (hcap : w.cell? ⟨c, 0, none⟩ = some (.slice ao n cap)) (hr : CRow w ao n (fun i => .string (f i))) :
    Calls Try.prog 23 #[.string s, .pointer (some ⟨c, 0, none⟩)] w fun e w' => e = .returned (.bool (memb f s n)) ∧ w' = w := by
  go_enter Try.func23, Try.ntmps23
  go_wp2_with fail
  refine (contains_any ao n cap f s _ hr).mono ?_
  rintro e w1 ⟨rfl, rfl⟩
  go_wp2
  go_ret
  exact ⟨rfl, rfl⟩

set_option maxHeartbeats 400000 in
/-- stringsBytes: it comes back with some number. -/
theorem sbytes_any (ao : Option Addr) (n cap : Nat) (f : Nat → ByteArray) (w : World) (hr : CRow w ao n (fun i => .string (f i))) :
    Calls Try.prog 13 #[.slice ao n cap] w fun e w' => ∃ r : Int, e = .returned (.int .i64 r) ∧ w' = w := by
  obtain ⟨hn, hr⟩ := hr
  have HR : Hid _ := hr
  clear hr
  go_enter Try.func13, Try.ntmps13
  go_wp2
  go_loop [3, 4] (fun t i => ∃ (k : Nat) (T : Int), k ≤ n ∧ i = .int .i64 k ∧ t = .int .i64 T) (fun _ i => n - (intOf i).toNat)
  case atStart => exact ⟨0, 0, Nat.zero_le _, rfl, rfl⟩
  case round =>
    obtain ⟨k, T, hk, rfl, rfl⟩ := hrel
    by_cases hlt : k < n
    · obtain h0 | ⟨b, off, rfl, hb, hc⟩ := HR.out
      · omega
      have hck := hc k hlt
      clear hc HR hb
      go_wp2
      go_round
      case rel => exact ⟨k + 1, _, by omega, by go_num, rfl⟩
      case measure => simp [intOf]; omega
    · go_wp2
      go_ret
      exact ⟨⟨_, rfl⟩, rfl⟩
end Go.Proofs.Qxb6612376a
