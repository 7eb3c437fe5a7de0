/-
  THE WALK OF FnPutAppendsOneRuneThatReadsBack.
-/
import Derived.Test.Qxb6612405aKeeps
import Derived.Test.Qxb6612405aDecode
namespace Go.Proofs.Qxb6612405a
open Go.RowKit

theorem own_later {w w' : World} {B n : Nat} {v : Value} {xs : List Value} (h : w.ownsRow B 5 1 v n xs) (hb : Below w.heap.size w w') : w'.ownsRow B 5 1 v n xs :=
  h.kept (row := none) ⟨hb.os, hb.tape, hb.output, hb.size, fun k hk _ => hb.block k hk⟩ (by cases hv : v.ownBlock <;> simp)

/-- Block R is not the block behind the address. -/
def Apart (R : Nat) (a : Option Addr) (n : Nat) : Prop := ∀ b off, n ≠ 0 → a = some ⟨b, off, none⟩ → b ≠ R

/-- A row of bytes that lies apart from the block of the slice at a1. -/
structure BRow (w : World) (a : Option Addr) (n : Nat) (bs : List Int) (a1 : Option Addr) : Prop where
  row : CRow w a n (fun i => .int .u8 (bs.getD i 0))
  apart : ∀ b off x, n ≠ 0 → a = some ⟨b, off, none⟩ → a1 = some x → x.block ≠ b

theorem BRow.lt {w : World} {a a1 : Option Addr} {n : Nat} {bs : List Int} (h : BRow w a n bs a1) (b off : Nat) (hn : n ≠ 0) (ha : a = some ⟨b, off, none⟩) : b < w.heap.size := by
  obtain h0 | ⟨b', off', rfl, hlt, _⟩ := h.row.2
  · exact absurd h0 hn
  · cases ha; exact hlt
theorem BRow.later {w w' : World} {a a1 : Option Addr} {n : Nat} {bs : List Int} (h : BRow w a n bs a1) (hb : Below w.heap.size w w') : BRow w' a n bs a1 := ⟨h.row.later hb, h.apart⟩
theorem BRow.same {w w' : World} {a a1 : Option Addr} {n : Nat} {bs : List Int} (h : BRow w a n bs a1) (hsz : w.heap.size ≤ w'.heap.size) (he : ∀ b off, n ≠ 0 → a = some ⟨b, off, none⟩ → w'.heap[b]? = w.heap[b]?) : BRow w' a n bs a1 := by
  refine ⟨⟨h.row.1, ?_⟩, h.apart⟩
  by_cases hn : n = 0
  · exact .inl hn
  obtain h0 | ⟨b, off, rfl, hlt, hc⟩ := h.row.2
  · exact absurd h0 hn
  · exact .inr ⟨b, off, rfl, by omega, fun i hi => (World.cell?_of_block (he b off hn rfl)).trans (hc i hi)⟩
theorem BRow.set {w : World} {a a1 : Option Addr} {n R : Nat} {bs : List Int} (h : BRow w a n bs a1) (hR : Apart R a n) (u : Value) : BRow (w.setCell ⟨R, 8, none⟩ u) a n bs a1 :=
  h.same (by simp) fun b off hn ha => heap_setCell_other w ⟨R, 8, none⟩ b u (hR b off hn ha)
theorem BRow.kept {w w' : World} {a a1 : Option Addr} {n L cap R : Nat} {bs : List Int} (h : BRow w a n bs a1) (hR : Apart R a n) (hk : Kept w w' R (Value.slice a1 L cap).ownBlock) : BRow w' a n bs a1 :=
  h.same hk.size fun b off hn ha => hk.block b (h.lt b off hn ha) (hR b off hn ha) (by
    cases a1 with
    | none => simp [Value.ownBlock]
    | some x => simp only [Value.ownBlock, ne_eq, Option.some.injEq]; exact fun e => h.apart b off x hn ha rfl e.symm)

theorem kept_below {w w' : World} {B R n : Nat} {v : Value} {xs : List Value} (hk : Kept w w' R v.ownBlock) (hB : B ≤ w.heap.size) (hR : B ≤ R) (hown : w.ownsRow B 5 1 v n xs) : Below B w w' := by
  refine ⟨hk.os, hk.tape, hk.output, hk.size, fun k hk' => hk.block k (by omega) (by omega) ?_⟩
  rcases hown.2 with ⟨rfl, _⟩ | ⟨g, c, cur, rfl, hg, _⟩
  · simp [Value.ownBlock]
  · simp only [Value.ownBlock, ne_eq, Option.some.injEq]; omega

theorem own_some {w : World} {B n cap : Nat} {a : Option Addr} {xs : List Value} (h : w.ownsRow B 5 1 (.slice a n cap) n xs) (hn : 1 ≤ n) : ∃ g, a = some ⟨g, 0, none⟩ ∧ n ≤ cap := by
  rcases h.2 with ⟨_, h0⟩ | ⟨g, cap', cur, hv, _, _, hnc, _⟩
  · omega
  · simp only [Value.slice.injEq] at hv
    exact ⟨g, hv.1, by omega⟩

theorem added_row {w : World} {g n : Nat} {bs es : List Int} (h : CRow w (some ⟨g, 0, none⟩) (n + es.length) (fun i => .int .u8 ((bs ++ es).getD i 0))) (hb : bs.length = n) :
    CRow w (some ⟨g, n, none⟩) es.length (fun i => .int .u8 (es.getD i 0)) := by
  refine ⟨by have := h.1; omega, ?_⟩
  by_cases h0 : es.length = 0
  · exact .inl h0
  obtain hx | ⟨b, off, ha, hlt, hc⟩ := h.2
  · omega
  · cases ha
    refine .inr ⟨g, n, rfl, hlt, fun i hi => ?_⟩
    have := hc (n + i) (by omega)
    rw [Nat.zero_add] at this
    rw [this]
    show some (Value.int .u8 ((bs ++ es).getD (n + i) 0)) = some (Value.int .u8 (es.getD i 0))
    rw [List.getD_eq_getElem?_getD, List.getElem?_append_right (by omega), show n + i - bs.length = i from by omega, ← List.getD_eq_getElem?_getD]

theorem own_lt {w : World} {B n cap g : Nat} {xs : List Value} (h : w.ownsRow B 5 1 (.slice (some ⟨g, 0, none⟩) n cap) n xs) : g < w.heap.size := by
  rcases h.2 with ⟨hv, _⟩ | ⟨g', cap', cur, hv, _, hh, _⟩
  · cases hv
  · simp only [Value.slice.injEq, Option.some.injEq, Addr.mk.injEq, and_true] at hv
    rw [hv.1]; exact lt_of_heap hh

/-- zzj1Copy at whatever slice. -/
theorem copy_any (a : Option Addr) (n c1 : Nat) (z : Nat → Int) (w : World) (hn : n ≤ 65536) (ha : CRow w a n (fun i => .int .u8 (z i))) :
    Calls Try.prog 10 #[.slice a n c1] w fun e w' => ∃ a1, e = .returned (.slice a1 n n) ∧ (a1 = none ∨ a1 = some ⟨w.heap.size, 0, none⟩) ∧ w'.ownsRow w.heap.size 5 1 (.slice a1 n n) n (cells (bytesOf z n)) ∧ Below w.heap.size w w' := by
  cases a with
  | none =>
    obtain h0 | ⟨b, off, hx, _⟩ := ha.2
    · subst h0
      refine (copy_none c1 w).mono ?_
      rintro e w' ⟨rfl, rfl⟩
      exact ⟨none, rfl, .inl rfl, World.ownsRow_nil _ _ _ _, Below.refl _ _⟩
    · cases hx
  | some x =>
    refine (copy_some x n c1 z w hn ha).mono ?_
    rintro e w' ⟨rfl, h1, h2⟩
    exact ⟨_, rfl, .inr rfl, h1, h2⟩

theorem zzbytes29_yes (a : Option Addr) (n cap : Nat) (c keep : Int) (w : World) (hn : n ≤ 1048576) :
    Calls Try.prog 29 #[.slice a n cap, .int .i32 c, .int .i64 keep] w fun e w' => e = .returned (.bool true) ∧ w = w' := by
  go_enter Try.func29, Try.ntmps29
  go_wp2
  go_ret
  exact ⟨rfl, rfl⟩
theorem zzbytes29_no (a : Option Addr) (n cap : Nat) (c keep : Int) (w : World) (hn : 1048576 < n) :
    Calls Try.prog 29 #[.slice a n cap, .int .i32 c, .int .i64 keep] w fun e w' => e = .returned (.bool false) ∧ w = w' := by
  go_enter Try.func29, Try.ntmps29
  go_wp2
  go_ret
  exact ⟨rfl, rfl⟩
theorem appends_early (a : Option Addr) (n cap : Nat) (c keep : Int) (w : World) (hn : 65536 < n) :
    Calls Try.prog 8 #[.slice a n cap, .int .i32 c, .int .i64 keep] w fun e w' => e = .returned (.bool true) ∧ Below w.heap.size w w' := by
  by_cases h : n ≤ 1048576
  · go_enter Try.func8, Try.ntmps8
    go_wp2_with (go_at_call 29; refine (zzbytes29_yes a n cap c keep _ h).mono ?_; rintro e w1 ⟨rfl, rfl⟩)
    go_ret
    exact ⟨rfl, Below.refl _ _⟩
  · go_enter Try.func8, Try.ntmps8
    go_wp2_with (go_at_call 29; refine (zzbytes29_no a n cap c keep _ (by omega)).mono ?_; rintro e w1 ⟨rfl, rfl⟩)
    go_ret
    exact ⟨rfl, Below.refl _ _⟩

set_option maxRecDepth 100000 in
set_option maxHeartbeats 4000000 in
theorem appends_main (a : Option Addr) (n cap : Nat) (z : Nat → Int) (c keep : Int) (w : World) (hn : n ≤ 65536) (hc0 : -2147483648 ≤ c) (hc1 : c ≤ 2147483647) (hr : CRow w a n (fun i => .int .u8 (z i))) :
    Calls Try.prog 8 #[.slice a n cap, .int .i32 c, .int .i64 keep] w fun e w' => e = .returned (.bool true) ∧ Below w.heap.size w w' := by
  go_enter Try.func8, Try.ntmps8
  go_wp2_with (go_at_call 29; refine (zzbytes29_yes _ n cap c keep _ (by omega)).mono ?_; rintro e w1 ⟨rfl, rfl⟩)
  refine (copy_any a n cap z _ hn hr).mono ?_
  rintro e w1 ⟨a1, rfl, ha1, hown1, hb1⟩
  have r1 := own_row hown1 (by omega)
  have HA1 : Hid _ := ha1
  clear ha1
  go_wp2_with fail
  refine (copy_any a1 n n _ _ hn r1).mono ?_
  rintro e w2 ⟨a2, rfl, ha2, hown2b, hb2⟩
  obtain ⟨bs, hbs⟩ : ∃ bs, bs = bytesOf z n := ⟨_, rfl⟩
  have hbl : bs.length = n := by rw [hbs, bytesOf_len]
  have hown2 : w2.ownsRow w.heap.size 5 1 (.slice a1 n n) n (cells bs) := by rw [hbs]; exact own_later hown1 hb2
  have hB2 := below_call hb1 hb2
  have hap2 : BRow w2 a2 n bs a1 := by
    refine ⟨(own_row hown2b (by omega)).congr fun i hi => ?_, fun b off y _ hb hy => ?_⟩
    · show Value.int .u8 _ = Value.int .u8 _
      rw [hbs]; simp [bytesOf, hi]
    · rcases HA1.out with h | h
      · rw [h] at hy; cases hy
      · rcases ha2 with h' | h'
        · rw [h'] at hb; cases hb
        · rw [h] at hy hown1
          rw [h'] at hb
          cases hb; cases hy
          have := own_lt hown1
          show w.heap.size ≠ w1.heap.size
          omega
  have hsz2 := hB2.size
  clear hbs hown1 hown2b hb1 hb2 r1 hr HA1 ha2
  -- here: t holds '.slice a1 n n', before holds '.slice a2 n c2' in the world w2
  go_wp2_with fail
  refine (newReader_any _).mono ?_
  rintro e w3 ⟨R, cs, rfl, hR0, hR1, hR2, hR3, hR4, hb3⟩
  have hRI : ReaderIs w3 R (.slice none 0 0) := ⟨cs, hR0, hR1, hR2⟩
  clear hR0 hR1 hR2 hR3
  have hown3 := own_later hown2 hb3
  have hB3 := below_call hB2 hb3
  have hap3 := hap2.later hb3
  have hapR : Apart R a2 n := fun b off e h => by have := hap2.lt b off e h; omega
  go_wp2_with fail
  refine (withText_any R _ a1 n n _ hRI).mono ?_
  rintro e w4 ⟨rfl, HW4⟩
  have hR4' : ReaderIs w4 R (.slice a1 n n) := by rw [HW4]; exact hRI.set _
  have hown4 : w4.ownsRow w.heap.size 5 1 (.slice a1 n n) n (cells bs) := by rw [HW4]; exact own_setOther hown3 (hRI.ne hown3)
  have hB4 : Below w.heap.size w w4 := by rw [HW4]; exact hB3.setCell (p := ⟨R, 8, none⟩) (by have := hB2.size; show w.heap.size ≤ R; omega) _
  have hap4 : BRow w4 a2 n bs a1 := by rw [HW4]; exact hap3.set hapR _
  clear HW4 hRI hown3 hB3 hap3 hb3 hown2 hB2 hap2
  by_cases hk : (n : Int) < keep
  · go_wp2_with fail
    refine (zzput_adds R w.heap.size a1 n n _ c keep hc0 hc1 _ hR4' hown4 (by omega) hB4.size hk).mono ?_
    rintro e w5 ⟨rfl, a5, cap5, hR5, hown5, hk5⟩
    have hB5 := hB4.trans (kept_below hk5 hB4.size (by omega) hown4)
    have hap5 := hap4.kept hapR hk5
    obtain ⟨g5, rfl, hc5⟩ := own_some hown5 (by have := enc_len c; omega)
    have hown5' : w5.ownsRow w.heap.size 5 1 (.slice (some ⟨g5, 0, none⟩) (n + (enc c).length) cap5) (n + (enc c).length) (cells (bs ++ enc c)) := by rw [show cells (bs ++ enc c) = cells bs ++ cells (enc c) from by simp [cells]]; exact hown5
    have rg := own_row hown5' (by have := enc_len c; omega)
    have hel := enc_len c
    have rgot := (rg.cut (Nat.le_add_right n _)).congr (g := fun i => .int .u8 (bs.getD i 0)) (fun i hi => by
      show Value.int .u8 ((bs ++ enc c).getD i 0) = Value.int .u8 (bs.getD i 0)
      rw [List.getD_eq_getElem?_getD, List.getElem?_append_left (by omega), ← List.getD_eq_getElem?_getD])
    have radd := added_row rg hbl
    clear rg hown5 hown5' hk5 hown4 hap4 hR4'
    obtain ⟨E, hE⟩ : ∃ E, E = (enc c).length := ⟨_, rfl⟩
    rw [← hE] at hR5 radd hc5 hel
    have HE : Hid _ := hE
    clear hE
    go_wp2_with fail
    refine (zztext_any R _ _ _ _ hR5).mono ?_
    rintro e w6 ⟨rfl, HW6⟩
    have hB6 : Below w.heap.size w w6 := by rw [HW6]; exact hB5
    have rgot6 : CRow w6 (some ⟨g5, 0, none⟩) n (fun i => .int .u8 (bs.getD i 0)) := by rw [HW6]; exact rgot
    have radd6 : CRow w6 (some ⟨g5, n, none⟩) E (fun i => .int .u8 ((enc c).getD i 0)) := by rw [HW6]; exact radd
    have rbef6 : CRow w6 a2 n (fun i => .int .u8 (bs.getD i 0)) := by rw [HW6]; exact hap5.row
    clear HW6 hB5 rgot radd hap5 hR5
    go_wp2_with fail
    refine (equal_any _ _ n _ _ (fun i => bs.getD i 0) _ rgot6 rbef6).mono ?_
    rintro e w7 ⟨rfl, hb7⟩
    have hB7 := below_call hB6 hb7
    have radd7 := radd6.later hb7
    clear rgot6 radd6 rbef6 hb7 hB6
    have hfix := fixed_ok c
    by_cases d0 : c < 0
    · have hf := fixed_bad (c := c) (.inl d0)
      have radd8 : CRow w7 (some ⟨g5, n, none⟩) E (fun i => .int .u8 ((utf 65533).getD i 0)) := by unfold enc at radd7; rw [hf] at radd7; exact radd7
      have hE8 : Hid (E = (utf 65533).length) := by have h := HE.out; unfold enc at h; rw [hf] at h; exact h
      clear hf radd7 HE hfix
      go_wp2_with fail
      refine (decode_any _ E _ 65533 _ (by omega) (by omega) (by omega) hE8.out radd8).mono ?_
      rintro e w8 ⟨rfl, hb8⟩
      have hB8 := below_call hB7 hb8
      clear hb8 hB7 radd8
      go_wp2
      go_ret
      exact ⟨rfl, hB8⟩
    by_cases d1 : 1114111 < c
    · have hf := fixed_bad (c := c) (.inr (.inl d1))
      have radd8 : CRow w7 (some ⟨g5, n, none⟩) E (fun i => .int .u8 ((utf 65533).getD i 0)) := by unfold enc at radd7; rw [hf] at radd7; exact radd7
      have hE8 : Hid (E = (utf 65533).length) := by have h := HE.out; unfold enc at h; rw [hf] at h; exact h
      clear hf radd7 HE hfix
      go_wp2_with fail
      refine (decode_any _ E _ 65533 _ (by omega) (by omega) (by omega) hE8.out radd8).mono ?_
      rintro e w8 ⟨rfl, hb8⟩
      have hB8 := below_call hB7 hb8
      clear hb8 hB7 radd8
      go_wp2
      go_ret
      exact ⟨rfl, hB8⟩
    by_cases d2 : 55296 ≤ c ∧ c ≤ 57343
    · have hf := fixed_bad (c := c) (.inr (.inr d2))
      obtain ⟨d2a, d2b⟩ := d2
      have radd8 : CRow w7 (some ⟨g5, n, none⟩) E (fun i => .int .u8 ((utf 65533).getD i 0)) := by unfold enc at radd7; rw [hf] at radd7; exact radd7
      have hE8 : Hid (E = (utf 65533).length) := by have h := HE.out; unfold enc at h; rw [hf] at h; exact h
      clear hf radd7 HE hfix
      go_wp2_with fail
      refine (decode_any _ E _ 65533 _ (by omega) (by omega) (by omega) hE8.out radd8).mono ?_
      rintro e w8 ⟨rfl, hb8⟩
      have hB8 := below_call hB7 hb8
      clear hb8 hB7 radd8
      go_wp2
      go_ret
      exact ⟨rfl, hB8⟩
    have hf := fixed_good (c := c) (by omega)
    by_cases d3 : c < 55296
    · have d3' := d3
      have radd8 : CRow w7 (some ⟨g5, n, none⟩) E (fun i => .int .u8 ((utf c).getD i 0)) := by unfold enc at radd7; rw [hf] at radd7; exact radd7
      have hE8 : Hid (E = (utf c).length) := by have h := HE.out; unfold enc at h; rw [hf] at h; exact h
      clear hf radd7 HE hfix
      go_wp2_with fail
      refine (decode_any _ E _ c _ (by omega) (by omega) (by omega) hE8.out radd8).mono ?_
      rintro e w8 ⟨rfl, hb8⟩
      have hB8 := below_call hB7 hb8
      clear hb8 hB7 radd8
      go_wp2
      go_ret
      exact ⟨rfl, hB8⟩
    · have d4 : 57343 < c := by omega
      have radd8 : CRow w7 (some ⟨g5, n, none⟩) E (fun i => .int .u8 ((utf c).getD i 0)) := by unfold enc at radd7; rw [hf] at radd7; exact radd7
      have hE8 : Hid (E = (utf c).length) := by have h := HE.out; unfold enc at h; rw [hf] at h; exact h
      clear hf radd7 HE hfix
      go_wp2_with fail
      refine (decode_any _ E _ c _ (by omega) (by omega) (by omega) hE8.out radd8).mono ?_
      rintro e w8 ⟨rfl, hb8⟩
      have hB8 := below_call hB7 hb8
      clear hb8 hB7 radd8
      go_wp2
      go_ret
      exact ⟨rfl, hB8⟩
  · have hk' : keep ≤ (n : Int) := by omega
    go_wp2_with fail
    refine (zzput_stays R a1 n n c keep _ hR4' hk').mono ?_
    rintro e w5 ⟨rfl, HW5⟩
    have hR5 : ReaderIs w5 R (.slice a1 n n) := by rw [HW5]; exact hR4'
    have hB5 : Below w.heap.size w w5 := by rw [HW5]; exact hB4
    have rgot : CRow w5 a1 n (fun i => .int .u8 (bs.getD i 0)) := by rw [HW5]; exact own_row hown4 (by omega)
    have rbef : CRow w5 a2 n (fun i => .int .u8 (bs.getD i 0)) := by rw [HW5]; exact hap4.row
    have hcap := own_cap hown4
    clear HW5 hR4' hB4 hown4 hap4
    go_wp2_with fail
    refine (zztext_any R _ _ _ _ hR5).mono ?_
    rintro e w6 ⟨rfl, HW6⟩
    have hB6 : Below w.heap.size w w6 := by rw [HW6]; exact hB5
    have rgot6 : CRow w6 a1 n (fun i => .int .u8 (bs.getD i 0)) := by rw [HW6]; exact rgot
    have rbef6 : CRow w6 a2 n (fun i => .int .u8 (bs.getD i 0)) := by rw [HW6]; exact rbef
    clear HW6 hB5 rgot rbef hR5
    go_wp2_with fail
    refine (equal_any _ _ n _ _ (fun i => bs.getD i 0) _ rgot6 rbef6).mono ?_
    rintro e w7 ⟨rfl, hb7⟩
    have hB7 := below_call hB6 hb7
    clear rgot6 rbef6 hb7 hB6
    go_wp2
    go_ret
    exact ⟨by simp, hB7⟩
end Go.Proofs.Qxb6612405a
