/-
  THE WALK OF zzIsBreak, and of zzBytes.
-/
import Derived.Test.Qxb6612722aClone
namespace Go.Proofs.Qxb6612722a
open Go.RowKit

def SomeBool (e : Ending) : Prop := ∃ r, e = .returned (.bool r)

def SomeB (v : Value) : Prop := ∃ r, v = .bool r

def isB (c : Int) : Bool := c == 10 || c == 13
theorem isB_10 {c : Int} (h : c = 10) : isB c = true := by subst h; rfl
theorem isB_13 {c : Int} (h : c = 13) : isB c = true := by subst h; rfl
theorem isB_no {c : Int} (h : c ≠ 10) (h' : c ≠ 13) : isB c = false := by simp [isB, h, h']

theorem isBreak_any (c : Int) (w : World) : Calls Try.prog 9 #[.int .u8 c] w fun e w' => e = .returned (.bool (isB c)) ∧ w = w' := by
  by_cases h : c = 10
  · rw [isB_10 h]
    have b1 : (c == 10) = true := by simp [h]
    go_enter Try.func9, Try.ntmps9
    go_wp2
    go_ret
    exact ⟨rfl, rfl⟩
  · have b1 : (c == 10) = false := by simp [h]
    by_cases h' : c = 13
    · rw [isB_13 h']
      have b2 : (c == 13) = true := by simp [h']
      go_enter Try.func9, Try.ntmps9
      go_wp2
      go_ret
      exact ⟨rfl, rfl⟩
    · rw [isB_no h h']
      have b2 : (c == 13) = false := by simp [h']
      go_enter Try.func9, Try.ntmps9
      go_wp2
      go_ret
      exact ⟨rfl, rfl⟩

theorem zzBytes_yes (a : Option Addr) (n cap : Nat) (a1 a2 a3 a4 a5 : Int) (w : World) (hn : n ≤ 1048576) :
    Calls Try.prog 4 #[.slice a n cap, .int .i64 a1, .int .i64 a2, .int .i64 a3, .int .i64 a4, .int .i64 a5] w fun e w' => e = .returned (.bool true) ∧ w = w' := by
  go_enter Try.func4, Try.ntmps4
  go_wp2
  go_ret
  exact ⟨rfl, rfl⟩

theorem zzBytes_no (a : Option Addr) (n cap : Nat) (a1 a2 a3 a4 a5 : Int) (w : World) (hn : 1048576 < n) :
    Calls Try.prog 4 #[.slice a n cap, .int .i64 a1, .int .i64 a2, .int .i64 a3, .int .i64 a4, .int .i64 a5] w fun e w' => e = .returned (.bool false) ∧ w = w' := by
  go_enter Try.func4, Try.ntmps4
  go_wp2
  go_ret
  exact ⟨rfl, rfl⟩

/-- zzReachable where the line starts below 0. -/
theorem reach_neg (a : Option Addr) (n cap : Nat) (bom line ls pos : Int) (w : World) (hls : ls < 0) :
    Calls Try.prog 5 #[.slice a n cap, .int .i64 bom, .int .i64 line, .int .i64 ls, .int .i64 pos] w fun e w' => e = .returned (.bool false) ∧ w = w' := by
  have b1 : decide (ls < 0) = true := by simp [hls]
  go_enter Try.func5, Try.ntmps5
  go_wp2
  go_ret
  exact ⟨rfl, rfl⟩
end Go.Proofs.Qxb6612722a
