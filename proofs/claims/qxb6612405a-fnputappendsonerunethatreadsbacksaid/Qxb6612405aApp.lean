/-
  THE WALKS OF unicode/utf8.AppendRune and appendRuneNonASCII at this program.
-/
import Derived.Test.Qxb6612405aEnc
namespace Go.Proofs.Qxb6612405a
open Go.RowKit

theorem cells_get (bs : List Int) (j : Nat) : (cells bs)[j]? = (bs[j]?).map (Value.int .u8) := by simp [cells]

/-- 'append(p, b0, b1, ..)', p nil or the call's own. -/
theorem wp_apps (w : World) {ops : Array Oper} {rest : List Oper} {o : Oper} {a : Act} {Q : Exit → Act → World → Prop} (hgd : o.guard = none) (s x : Operand)
    (ho : o.op = .call { callee := .builtin .append, args := #[s, x], argTypes := #[22, 22] })
    (B : Nat) (v : Value) (n : Nat) (xs : List Value) (hs : a.eval s = v) (hown : w.ownsRow B 5 1 v n xs) (bs : List Int) (hx : a.eval x = .slice (some ⟨w.heap.size, 0, none⟩) bs.length bs.length)
    (hlen : n + bs.length ≤ 140737488355328) (hB : B ≤ w.heap.size)
    (h : ∀ v' w', w'.ownsRow B 5 1 v' (n + bs.length) (xs ++ cells bs) → w.grownBy w' v.ownBlock → wpList Try.prog ops Q rest (a.put o.dst v') w') :
    wpList Try.prog ops Q (o :: rest) a (w.alloc (.cells (cells bs).toArray 5)) := by
  obtain ⟨i0, hi, hz0, hz1, hz2⟩ := info_parts info5
  refine wpList_append_own _ hgd s x 22 ho B 5 i0 (.int .u8 0) 1 1 Try.underlying22 hi hz0 hz1 hz2 rfl (by decide) v n xs hs (hown.alloc _) ⟨w.heap.size, 0, none⟩ bs.length bs.length (cells bs) hx (by simp [cells]) ?_ ?_ ?_ ?_ ?_ ?_
  · intro j u hj
    have e : (⟨w.heap.size, 0, none⟩ : Addr).add j = ⟨w.heap.size, j, none⟩ := by
      unfold Addr.add; split
      · rename_i e; subst e; rfl
      · simp
    rw [e, World.cell?_alloc_new]
    simpa using hj
  · intro u hu
    simp only [cells, List.mem_map] at hu
    obtain ⟨b, _, rfl⟩ := hu
    rfl
  · unfold maxLen; omega
  · omega
  · simp; omega
  · intro v' w' h1 h2 _
    refine h v' w' h1 ⟨h2.os, h2.tape, h2.output, ?_, fun k hk hne => ?_⟩
    · have := h2.size; simp at this; omega
    · rw [h2.block k (by simp; omega) hne]
      exact Below.heap_alloc w _ k hk

set_option maxRecDepth 100000 in
set_option maxHeartbeats 1600000 in
theorem app_one (c : Int) (h0 : 0 ≤ c) (h1 : c < 128) (B : Nat) (v : Value) (n : Nat) (xs : List Value) (w : World) (hown : w.ownsRow B 5 1 v n xs) (hlen : n + 4 ≤ 140737488355328) (hB : B ≤ w.heap.size) :
    Calls Try.prog 52 #[v, .int .i32 c] w fun e w' => ∃ v', e = .returned v' ∧ w'.ownsRow B 5 1 v' (n + 1) (xs ++ cells [c]) ∧ w.grownBy w' v.ownBlock := by
  go_enter Try.func52, Try.ntmps52
  go_wp2_with (at_builtin; refine wp_apps _ rfl (.tmp 8) (.tmp 11) rfl B _ _ _ rfl hown [c] rfl (by simp; omega) hB ?_; intro v1 w1 hown1 hg1)
  go_ret
  exact ⟨v1, rfl, hown1, hg1⟩

set_option maxRecDepth 100000 in
set_option maxHeartbeats 1600000 in
theorem app_two (c : Int) (h0 : 128 ≤ c) (h1 : c < 2048) (B : Nat) (v : Value) (n : Nat) (xs : List Value) (w : World) (hown : w.ownsRow B 5 1 v n xs) (hlen : n + 4 ≤ 140737488355328) (hB : B ≤ w.heap.size) :
    Calls Try.prog 53 #[v, .int .i32 c] w fun e w' => ∃ v', e = .returned v' ∧ w'.ownsRow B 5 1 v' (n + 2) (xs ++ cells [192 + c / 64, 128 + c % 64]) ∧ w.grownBy w' v.ownBlock := by
  go_enter Try.func53, Try.ntmps53
  go_wp2_with (at_builtin; refine wp_apps _ rfl (.tmp 14) (.tmp 23) rfl B _ _ _ rfl hown [192 + c / 64, 128 + c % 64] rfl (by simp; omega) hB ?_; intro v1 w1 hown1 hg1)
  go_ret
  exact ⟨v1, rfl, hown1, hg1⟩

set_option maxRecDepth 100000 in
set_option maxHeartbeats 1600000 in
theorem app_three_lo (c : Int) (h0 : 2048 ≤ c) (h1 : c < 55296) (B : Nat) (v : Value) (n : Nat) (xs : List Value) (w : World) (hown : w.ownsRow B 5 1 v n xs) (hlen : n + 4 ≤ 140737488355328) (hB : B ≤ w.heap.size) :
    Calls Try.prog 53 #[v, .int .i32 c] w fun e w' => ∃ v', e = .returned v' ∧ w'.ownsRow B 5 1 v' (n + 3) (xs ++ cells [224 + c / 4096, 128 + c / 64 % 64, 128 + c % 64]) ∧ w.grownBy w' v.ownBlock := by
  go_enter Try.func53, Try.ntmps53
  go_wp2_with (at_builtin; refine wp_apps _ rfl (.tmp 34) (.tmp 48) rfl B _ _ _ rfl hown [224 + c / 4096, 128 + c / 64 % 64, 128 + c % 64] rfl (by simp; omega) hB ?_; intro v1 w1 hown1 hg1)
  go_ret
  exact ⟨v1, rfl, hown1, hg1⟩

set_option maxRecDepth 100000 in
set_option maxHeartbeats 1600000 in
theorem app_three_hi (c : Int) (h0 : 57343 < c) (h1 : c < 65536) (B : Nat) (v : Value) (n : Nat) (xs : List Value) (w : World) (hown : w.ownsRow B 5 1 v n xs) (hlen : n + 4 ≤ 140737488355328) (hB : B ≤ w.heap.size) :
    Calls Try.prog 53 #[v, .int .i32 c] w fun e w' => ∃ v', e = .returned v' ∧ w'.ownsRow B 5 1 v' (n + 3) (xs ++ cells [224 + c / 4096, 128 + c / 64 % 64, 128 + c % 64]) ∧ w.grownBy w' v.ownBlock := by
  go_enter Try.func53, Try.ntmps53
  go_wp2_with (at_builtin; refine wp_apps _ rfl (.tmp 34) (.tmp 48) rfl B _ _ _ rfl hown [224 + c / 4096, 128 + c / 64 % 64, 128 + c % 64] rfl (by simp; omega) hB ?_; intro v1 w1 hown1 hg1)
  go_ret
  exact ⟨v1, rfl, hown1, hg1⟩

set_option maxRecDepth 100000 in
set_option maxHeartbeats 1600000 in
theorem app_four (c : Int) (h0 : 65536 ≤ c) (h1 : c ≤ 1114111) (B : Nat) (v : Value) (n : Nat) (xs : List Value) (w : World) (hown : w.ownsRow B 5 1 v n xs) (hlen : n + 4 ≤ 140737488355328) (hB : B ≤ w.heap.size) :
    Calls Try.prog 53 #[v, .int .i32 c] w fun e w' => ∃ v', e = .returned v' ∧ w'.ownsRow B 5 1 v' (n + 4) (xs ++ cells [240 + c / 262144, 128 + c / 4096 % 64, 128 + c / 64 % 64, 128 + c % 64]) ∧ w.grownBy w' v.ownBlock := by
  go_enter Try.func53, Try.ntmps53
  go_wp2_with (at_builtin; refine wp_apps _ rfl (.tmp 57) (.tmp 76) rfl B _ _ _ rfl hown [240 + c / 262144, 128 + c / 4096 % 64, 128 + c / 64 % 64, 128 + c % 64] rfl (by simp; omega) hB ?_; intro v1 w1 hown1 hg1)
  go_ret
  exact ⟨v1, rfl, hown1, hg1⟩

set_option maxRecDepth 100000 in
set_option maxHeartbeats 1600000 in
theorem app_bad_neg (c : Int) (h0 : -2147483648 ≤ c) (h1 : c < 0) (B : Nat) (v : Value) (n : Nat) (xs : List Value) (w : World) (hown : w.ownsRow B 5 1 v n xs) (hlen : n + 4 ≤ 140737488355328) (hB : B ≤ w.heap.size) :
    Calls Try.prog 53 #[v, .int .i32 c] w fun e w' => ∃ v', e = .returned v' ∧ w'.ownsRow B 5 1 v' (n + 3) (xs ++ cells [239, 191, 189]) ∧ w.grownBy w' v.ownBlock := by
  go_enter Try.func53, Try.ntmps53
  go_wp2_with (at_builtin; refine wp_apps _ rfl (.tmp 8) (.tmp 9) rfl B _ _ _ rfl hown [239, 191, 189] rfl (by simp; omega) hB ?_; intro v1 w1 hown1 hg1)
  go_ret
  exact ⟨v1, rfl, hown1, hg1⟩

set_option maxRecDepth 100000 in
set_option maxHeartbeats 1600000 in
theorem app_bad_sur (c : Int) (h0 : 55296 ≤ c) (h1 : c ≤ 57343) (B : Nat) (v : Value) (n : Nat) (xs : List Value) (w : World) (hown : w.ownsRow B 5 1 v n xs) (hlen : n + 4 ≤ 140737488355328) (hB : B ≤ w.heap.size) :
    Calls Try.prog 53 #[v, .int .i32 c] w fun e w' => ∃ v', e = .returned v' ∧ w'.ownsRow B 5 1 v' (n + 3) (xs ++ cells [239, 191, 189]) ∧ w.grownBy w' v.ownBlock := by
  go_enter Try.func53, Try.ntmps53
  go_wp2_with (at_builtin; refine wp_apps _ rfl (.tmp 8) (.tmp 9) rfl B _ _ _ rfl hown [239, 191, 189] rfl (by simp; omega) hB ?_; intro v1 w1 hown1 hg1)
  go_ret
  exact ⟨v1, rfl, hown1, hg1⟩

set_option maxRecDepth 100000 in
set_option maxHeartbeats 1600000 in
theorem app_bad_big (c : Int) (h0 : 1114111 < c) (h1 : c ≤ 2147483647) (B : Nat) (v : Value) (n : Nat) (xs : List Value) (w : World) (hown : w.ownsRow B 5 1 v n xs) (hlen : n + 4 ≤ 140737488355328) (hB : B ≤ w.heap.size) :
    Calls Try.prog 53 #[v, .int .i32 c] w fun e w' => ∃ v', e = .returned v' ∧ w'.ownsRow B 5 1 v' (n + 3) (xs ++ cells [239, 191, 189]) ∧ w.grownBy w' v.ownBlock := by
  go_enter Try.func53, Try.ntmps53
  go_wp2_with (at_builtin; refine wp_apps _ rfl (.tmp 8) (.tmp 9) rfl B _ _ _ rfl hown [239, 191, 189] rfl (by simp; omega) hB ?_; intro v1 w1 hown1 hg1)
  go_ret
  exact ⟨v1, rfl, hown1, hg1⟩

end Go.Proofs.Qxb6612405a
