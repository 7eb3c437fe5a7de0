/-
  THE WALKS OF zzj1Encode.
-/
import Derived.Test.Qxb6612405aRows
import Derived.Test.Qxb6612405aPlain
import Derived.WalkKit
import Derived.WalkSpells
namespace Go.Proofs.Qxb6612405a
open Go.RowKit

theorem info5 : (Try.prog.info? 5).map (fun i => (i.zero, i.size, i.bytes)) = some (some (.int .u8 0), 1, 1) := by kernel_rfl

/-- 'append(b, x)' of one byte, b nil or the call's own. -/
theorem wp_app1 (w : World) {ops : Array Oper} {rest : List Oper} {o : Oper} {a : Act} {Q : Exit → Act → World → Prop} (hgd : o.guard = none) (s x : Operand)
    (ho : o.op = .call { callee := .builtin .append, args := #[s, x], argTypes := #[22, 22] })
    (B : Nat) (v : Value) (n : Nat) (xs : List Value) (hs : a.eval s = v) (hown : w.ownsRow B 5 1 v n xs) (b : Int) (hx : a.eval x = .slice (some ⟨w.heap.size, 0, none⟩) 1 1)
    (hlen : n + 1 ≤ 140737488355328) (hB : B ≤ w.heap.size)
    (h : ∀ v' w', w'.ownsRow B 5 1 v' (n + 1) (xs ++ [.int .u8 b]) → Below B w w' → wpList Try.prog ops Q rest (a.put o.dst v') w') :
    wpList Try.prog ops Q (o :: rest) a (w.alloc (.cells #[.int .u8 b] 5)) := by
  obtain ⟨i0, hi, hz0, hz1, hz2⟩ := info_parts info5
  refine wpList_append_own _ hgd s x 22 ho B 5 i0 (.int .u8 0) 1 1 Try.underlying22 hi hz0 hz1 hz2 rfl (by decide) v n xs hs (hown.alloc _) ⟨w.heap.size, 0, none⟩ 1 1 [.int .u8 b] hx rfl ?_ ?_ ?_ ?_ ?_ ?_
  · intro j u hj
    match j, hj with
    | 0, hj => simp at hj; subst hj; simp [Addr.add]
  · intro u hu; simp at hu; subst hu; rfl
  · unfold maxLen; omega
  · omega
  · simp; omega
  · intro v' w' h1 h2 _
    refine h v' w' h1 (((Below.refl B w).alloc hB _).grown h2 (by simp; omega) ?_)
    intro k hk
    rcases hown.2 with ⟨rfl, _⟩ | ⟨g, cap, cur, rfl, hg, _⟩
    · simp [Value.ownBlock] at hk
    · simp [Value.ownBlock] at hk; omega

set_option maxHeartbeats 1600000 in
theorem enc_one (c : Int) (h0 : 0 ≤ c) (h1 : c < 128) (B : Nat) (v : Value) (n : Nat) (xs : List Value) (w : World) (hown : w.ownsRow B 5 1 v n xs) (hlen : n + 4 ≤ 140737488355328) (hB : B ≤ w.heap.size) :
    Calls Try.prog 26 #[.int .i32 c, v] w fun e w' => ∃ v', e = .returned v' ∧ w'.ownsRow B 5 1 v' (n + 1) (xs ++ [.int .u8 (c)]) ∧ Below B w w' := by
  go_enter Try.func26, Try.ntmps26
  go_wp2_with (first | (at_builtin; refine wp_app1 _ rfl (.tmp 21) (.tmp 24) rfl B _ _ _ rfl hown _ rfl (by omega) hB ?_; intro v1 w1 hown1 hb1; have hB1 : B ≤ w1.heap.size := Nat.le_trans hB hb1.size))
  go_ret
  exact ⟨v1, rfl, by simpa using hown1, hb1⟩

set_option maxHeartbeats 1600000 in
theorem enc_two (c : Int) (h0 : 128 ≤ c) (h1 : c < 2048) (B : Nat) (v : Value) (n : Nat) (xs : List Value) (w : World) (hown : w.ownsRow B 5 1 v n xs) (hlen : n + 4 ≤ 140737488355328) (hB : B ≤ w.heap.size) :
    Calls Try.prog 26 #[.int .i32 c, v] w fun e w' => ∃ v', e = .returned v' ∧ w'.ownsRow B 5 1 v' (n + 2) (xs ++ [.int .u8 (192 + c / 64), .int .u8 (128 + c % 64)]) ∧ Below B w w' := by
  have e1 := or_192 (c / 64) (by omega) (by omega)
  have e2 := lead_63 c (by omega) (by omega)
  go_enter Try.func26, Try.ntmps26
  go_wp2_with (first | (at_builtin; refine wp_app1 _ rfl (.tmp 28) (.tmp 33) rfl B _ _ _ rfl hown _ rfl (by omega) hB ?_; intro v1 w1 hown1 hb1; have hB1 : B ≤ w1.heap.size := Nat.le_trans hB hb1.size) | (at_builtin; refine wp_app1 _ rfl (.tmp 35) (.tmp 40) rfl B _ _ _ rfl hown1 _ rfl (by omega) hB1 ?_; intro v2 w2 hown2 hb2; have hB2 : B ≤ w2.heap.size := Nat.le_trans hB1 hb2.size))
  go_ret
  exact ⟨v2, rfl, by simpa using hown2, (hb1.trans hb2)⟩

set_option maxHeartbeats 1600000 in
theorem enc_three_lo (c : Int) (h0 : 2048 ≤ c) (h1 : c < 55296) (B : Nat) (v : Value) (n : Nat) (xs : List Value) (w : World) (hown : w.ownsRow B 5 1 v n xs) (hlen : n + 4 ≤ 140737488355328) (hB : B ≤ w.heap.size) :
    Calls Try.prog 26 #[.int .i32 c, v] w fun e w' => ∃ v', e = .returned v' ∧ w'.ownsRow B 5 1 v' (n + 3) (xs ++ [.int .u8 (224 + c / 4096), .int .u8 (128 + c / 64 % 64), .int .u8 (128 + c % 64)]) ∧ Below B w w' := by
  have e1 := or_224 (c / 4096) (by omega) (by omega)
  have e2 := lead_63 (c / 64) (by omega) (by omega)
  have e3 := lead_63 c (by omega) (by omega)
  go_enter Try.func26, Try.ntmps26
  go_wp2_with (first | (at_builtin; refine wp_app1 _ rfl (.tmp 44) (.tmp 49) rfl B _ _ _ rfl hown _ rfl (by omega) hB ?_; intro v1 w1 hown1 hb1; have hB1 : B ≤ w1.heap.size := Nat.le_trans hB hb1.size) | (at_builtin; refine wp_app1 _ rfl (.tmp 51) (.tmp 57) rfl B _ _ _ rfl hown1 _ rfl (by omega) hB1 ?_; intro v2 w2 hown2 hb2; have hB2 : B ≤ w2.heap.size := Nat.le_trans hB1 hb2.size) | (at_builtin; refine wp_app1 _ rfl (.tmp 59) (.tmp 64) rfl B _ _ _ rfl hown2 _ rfl (by omega) hB2 ?_; intro v3 w3 hown3 hb3; have hB3 : B ≤ w3.heap.size := Nat.le_trans hB2 hb3.size))
  go_ret
  exact ⟨v3, rfl, by simpa using hown3, ((hb1.trans hb2).trans hb3)⟩

set_option maxHeartbeats 1600000 in
theorem enc_three_hi (c : Int) (h0 : 57343 < c) (h1 : c < 65536) (B : Nat) (v : Value) (n : Nat) (xs : List Value) (w : World) (hown : w.ownsRow B 5 1 v n xs) (hlen : n + 4 ≤ 140737488355328) (hB : B ≤ w.heap.size) :
    Calls Try.prog 26 #[.int .i32 c, v] w fun e w' => ∃ v', e = .returned v' ∧ w'.ownsRow B 5 1 v' (n + 3) (xs ++ [.int .u8 (224 + c / 4096), .int .u8 (128 + c / 64 % 64), .int .u8 (128 + c % 64)]) ∧ Below B w w' := by
  have e1 := or_224 (c / 4096) (by omega) (by omega)
  have e2 := lead_63 (c / 64) (by omega) (by omega)
  have e3 := lead_63 c (by omega) (by omega)
  go_enter Try.func26, Try.ntmps26
  go_wp2_with (first | (at_builtin; refine wp_app1 _ rfl (.tmp 44) (.tmp 49) rfl B _ _ _ rfl hown _ rfl (by omega) hB ?_; intro v1 w1 hown1 hb1; have hB1 : B ≤ w1.heap.size := Nat.le_trans hB hb1.size) | (at_builtin; refine wp_app1 _ rfl (.tmp 51) (.tmp 57) rfl B _ _ _ rfl hown1 _ rfl (by omega) hB1 ?_; intro v2 w2 hown2 hb2; have hB2 : B ≤ w2.heap.size := Nat.le_trans hB1 hb2.size) | (at_builtin; refine wp_app1 _ rfl (.tmp 59) (.tmp 64) rfl B _ _ _ rfl hown2 _ rfl (by omega) hB2 ?_; intro v3 w3 hown3 hb3; have hB3 : B ≤ w3.heap.size := Nat.le_trans hB2 hb3.size))
  go_ret
  exact ⟨v3, rfl, by simpa using hown3, ((hb1.trans hb2).trans hb3)⟩

set_option maxHeartbeats 1600000 in
theorem enc_four (c : Int) (h0 : 65536 ≤ c) (h1 : c ≤ 1114111) (B : Nat) (v : Value) (n : Nat) (xs : List Value) (w : World) (hown : w.ownsRow B 5 1 v n xs) (hlen : n + 4 ≤ 140737488355328) (hB : B ≤ w.heap.size) :
    Calls Try.prog 26 #[.int .i32 c, v] w fun e w' => ∃ v', e = .returned v' ∧ w'.ownsRow B 5 1 v' (n + 4) (xs ++ [.int .u8 (240 + c / 262144), .int .u8 (128 + c / 4096 % 64), .int .u8 (128 + c / 64 % 64), .int .u8 (128 + c % 64)]) ∧ Below B w w' := by
  have e1 := or_240 (c / 262144) (by omega) (by omega)
  have e2 := lead_63 (c / 4096) (by omega) (by omega)
  have e3 := lead_63 (c / 64) (by omega) (by omega)
  have e4 := lead_63 c (by omega) (by omega)
  go_enter Try.func26, Try.ntmps26
  go_wp2_with (first | (at_builtin; refine wp_app1 _ rfl (.tmp 66) (.tmp 71) rfl B _ _ _ rfl hown _ rfl (by omega) hB ?_; intro v1 w1 hown1 hb1; have hB1 : B ≤ w1.heap.size := Nat.le_trans hB hb1.size) | (at_builtin; refine wp_app1 _ rfl (.tmp 73) (.tmp 79) rfl B _ _ _ rfl hown1 _ rfl (by omega) hB1 ?_; intro v2 w2 hown2 hb2; have hB2 : B ≤ w2.heap.size := Nat.le_trans hB1 hb2.size) | (at_builtin; refine wp_app1 _ rfl (.tmp 81) (.tmp 87) rfl B _ _ _ rfl hown2 _ rfl (by omega) hB2 ?_; intro v3 w3 hown3 hb3; have hB3 : B ≤ w3.heap.size := Nat.le_trans hB2 hb3.size) | (at_builtin; refine wp_app1 _ rfl (.tmp 89) (.tmp 94) rfl B _ _ _ rfl hown3 _ rfl (by omega) hB3 ?_; intro v4 w4 hown4 hb4; have hB4 : B ≤ w4.heap.size := Nat.le_trans hB3 hb4.size))
  go_ret
  exact ⟨v4, rfl, by simpa using hown4, (((hb1.trans hb2).trans hb3).trans hb4)⟩

set_option maxHeartbeats 1600000 in
theorem enc_bad_neg (c : Int) (_h0 : -2147483648 ≤ c) (h1 : c < 0) (B : Nat) (v : Value) (n : Nat) (xs : List Value) (w : World) (hown : w.ownsRow B 5 1 v n xs) (hlen : n + 4 ≤ 140737488355328) (hB : B ≤ w.heap.size) :
    Calls Try.prog 26 #[.int .i32 c, v] w fun e w' => ∃ v', e = .returned v' ∧ w'.ownsRow B 5 1 v' (n + 3) (xs ++ [.int .u8 (239), .int .u8 (191), .int .u8 (189)]) ∧ Below B w w' := by
  have e1 : bits .or .i32 224 15 = 239 := by decide
  have e2 : bits .or .i32 128 (bits .and .i32 1023 63) = 191 := by decide
  have e3 : bits .or .i32 128 (bits .and .i32 65533 63) = 189 := by decide
  go_enter Try.func26, Try.ntmps26
  go_wp2_with (first | (at_builtin; refine wp_app1 _ rfl (.tmp 44) (.tmp 49) rfl B _ _ _ rfl hown _ rfl (by omega) hB ?_; intro v1 w1 hown1 hb1; have hB1 : B ≤ w1.heap.size := Nat.le_trans hB hb1.size) | (at_builtin; refine wp_app1 _ rfl (.tmp 51) (.tmp 57) rfl B _ _ _ rfl hown1 _ rfl (by omega) hB1 ?_; intro v2 w2 hown2 hb2; have hB2 : B ≤ w2.heap.size := Nat.le_trans hB1 hb2.size) | (at_builtin; refine wp_app1 _ rfl (.tmp 59) (.tmp 64) rfl B _ _ _ rfl hown2 _ rfl (by omega) hB2 ?_; intro v3 w3 hown3 hb3; have hB3 : B ≤ w3.heap.size := Nat.le_trans hB2 hb3.size))
  go_ret
  exact ⟨v3, rfl, by simpa using hown3, ((hb1.trans hb2).trans hb3)⟩

set_option maxHeartbeats 1600000 in
theorem enc_bad_sur (c : Int) (h0 : 55296 ≤ c) (h1 : c ≤ 57343) (B : Nat) (v : Value) (n : Nat) (xs : List Value) (w : World) (hown : w.ownsRow B 5 1 v n xs) (hlen : n + 4 ≤ 140737488355328) (hB : B ≤ w.heap.size) :
    Calls Try.prog 26 #[.int .i32 c, v] w fun e w' => ∃ v', e = .returned v' ∧ w'.ownsRow B 5 1 v' (n + 3) (xs ++ [.int .u8 (239), .int .u8 (191), .int .u8 (189)]) ∧ Below B w w' := by
  have e1 : bits .or .i32 224 15 = 239 := by decide
  have e2 : bits .or .i32 128 (bits .and .i32 1023 63) = 191 := by decide
  have e3 : bits .or .i32 128 (bits .and .i32 65533 63) = 189 := by decide
  go_enter Try.func26, Try.ntmps26
  go_wp2_with (first | (at_builtin; refine wp_app1 _ rfl (.tmp 44) (.tmp 49) rfl B _ _ _ rfl hown _ rfl (by omega) hB ?_; intro v1 w1 hown1 hb1; have hB1 : B ≤ w1.heap.size := Nat.le_trans hB hb1.size) | (at_builtin; refine wp_app1 _ rfl (.tmp 51) (.tmp 57) rfl B _ _ _ rfl hown1 _ rfl (by omega) hB1 ?_; intro v2 w2 hown2 hb2; have hB2 : B ≤ w2.heap.size := Nat.le_trans hB1 hb2.size) | (at_builtin; refine wp_app1 _ rfl (.tmp 59) (.tmp 64) rfl B _ _ _ rfl hown2 _ rfl (by omega) hB2 ?_; intro v3 w3 hown3 hb3; have hB3 : B ≤ w3.heap.size := Nat.le_trans hB2 hb3.size))
  go_ret
  exact ⟨v3, rfl, by simpa using hown3, ((hb1.trans hb2).trans hb3)⟩

set_option maxHeartbeats 1600000 in
theorem enc_bad_big (c : Int) (h0 : 1114111 < c) (h1 : c ≤ 2147483647) (B : Nat) (v : Value) (n : Nat) (xs : List Value) (w : World) (hown : w.ownsRow B 5 1 v n xs) (hlen : n + 4 ≤ 140737488355328) (hB : B ≤ w.heap.size) :
    Calls Try.prog 26 #[.int .i32 c, v] w fun e w' => ∃ v', e = .returned v' ∧ w'.ownsRow B 5 1 v' (n + 3) (xs ++ [.int .u8 (239), .int .u8 (191), .int .u8 (189)]) ∧ Below B w w' := by
  have e1 : bits .or .i32 224 15 = 239 := by decide
  have e2 : bits .or .i32 128 (bits .and .i32 1023 63) = 191 := by decide
  have e3 : bits .or .i32 128 (bits .and .i32 65533 63) = 189 := by decide
  go_enter Try.func26, Try.ntmps26
  go_wp2_with (first | (at_builtin; refine wp_app1 _ rfl (.tmp 44) (.tmp 49) rfl B _ _ _ rfl hown _ rfl (by omega) hB ?_; intro v1 w1 hown1 hb1; have hB1 : B ≤ w1.heap.size := Nat.le_trans hB hb1.size) | (at_builtin; refine wp_app1 _ rfl (.tmp 51) (.tmp 57) rfl B _ _ _ rfl hown1 _ rfl (by omega) hB1 ?_; intro v2 w2 hown2 hb2; have hB2 : B ≤ w2.heap.size := Nat.le_trans hB1 hb2.size) | (at_builtin; refine wp_app1 _ rfl (.tmp 59) (.tmp 64) rfl B _ _ _ rfl hown2 _ rfl (by omega) hB2 ?_; intro v3 w3 hown3 hb3; have hB3 : B ≤ w3.heap.size := Nat.le_trans hB2 hb3.size))
  go_ret
  exact ⟨v3, rfl, by simpa using hown3, ((hb1.trans hb2).trans hb3)⟩


/-- zzj1Encode, onto a row of bytes that the call owns (or nil): the UTF-8 form goes in behind what the row holds. -/
theorem enc_any (c : Int) (hc0 : -2147483648 ≤ c) (hc1 : c ≤ 2147483647) (B : Nat) (v : Value) (n : Nat) (xs : List Value) (w : World) (hown : w.ownsRow B 5 1 v n xs) (hlen : n + 4 ≤ 140737488355328) (hB : B ≤ w.heap.size) :
    Calls Try.prog 26 #[.int .i32 c, v] w fun e w' => ∃ v', e = .returned v' ∧ w'.ownsRow B 5 1 v' (n + (enc c).length) (xs ++ cells (enc c)) ∧ Below B w w' := by
  unfold enc
  by_cases d0 : c < 0
  · rw [fixed_bad (.inl d0), show utf 65533 = [239, 191, 189] from by decide]
    exact enc_bad_neg c hc0 d0 B v n xs w hown hlen hB
  by_cases d1 : 1114111 < c
  · rw [fixed_bad (.inr (.inl d1)), show utf 65533 = [239, 191, 189] from by decide]
    exact enc_bad_big c d1 hc1 B v n xs w hown hlen hB
  by_cases d2 : 55296 ≤ c ∧ c ≤ 57343
  · rw [fixed_bad (.inr (.inr d2)), show utf 65533 = [239, 191, 189] from by decide]
    exact enc_bad_sur c d2.1 d2.2 B v n xs w hown hlen hB
  rw [fixed_good (by omega)]
  by_cases d3 : c < 128
  · rw [utf_one d3]
    exact enc_one c (by omega) d3 B v n xs w hown hlen hB
  by_cases d4 : c < 2048
  · rw [utf_two (by omega) d4]
    exact enc_two c (by omega) d4 B v n xs w hown hlen hB
  by_cases d5 : c < 65536
  · rw [utf_three (by omega) d5]
    by_cases d6 : c < 55296
    · exact enc_three_lo c (by omega) d6 B v n xs w hown hlen hB
    · exact enc_three_hi c (by omega) d5 B v n xs w hown hlen hB
  · rw [utf_four (by omega)]
    exact enc_four c (by omega) (by omega) B v n xs w hown hlen hB
end Go.Proofs.Qxb6612405a
