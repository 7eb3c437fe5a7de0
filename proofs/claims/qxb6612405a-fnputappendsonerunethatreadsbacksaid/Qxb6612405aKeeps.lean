/-
  THE WALK OF FnPutKeepsWholeRunesUpToKeep.
-/
import Derived.Test.Qxb6612405aPutPlain
import Derived.Deep.RegionHeld3
import Derived.Laws.Pointers
namespace Go.Proofs.Qxb6612405a
open Go.RowKit

/-- The first loop's world: 'full' owns the UTF-8 form of the first k numbers. -/
def FullSt (w wr : World) (z : Nat → Int) (k : Nat) (a : Option Addr) (L cap : Nat) : Prop :=
  L = (fullTo z k).length ∧ wr.ownsRow w.heap.size 5 1 (.slice a L cap) L (cells (fullTo z k)) ∧ Below w.heap.size w wr

/-- The second loop's world: the reader's text. -/
def TextSt (w1 wr : World) (R : Nat) (z : Nat → Int) (keep : Int) (k : Nat) (a : Option Addr) (L cap : Nat) : Prop :=
  L = (textTo z keep k).length ∧ ReaderIs wr R (.slice a L cap) ∧ wr.ownsRow (R + 1) 5 1 (.slice a L cap) L (cells (textTo z keep k)) ∧ Below R w1 wr ∧ R + 1 ≤ wr.heap.size

theorem TextSt.adds {w1 wr w' : World} {R : Nat} {z : Nat → Int} {keep : Int} {k : Nat} {a a' : Option Addr} {L cap cap' : Nat} (h : TextSt w1 wr R z keep k a L cap) (hk : (L : Int) < keep)
    (hR : ReaderIs w' R (.slice a' (L + (enc (z k)).length) cap')) (hown : w'.ownsRow (R + 1) 5 1 (.slice a' (L + (enc (z k)).length) cap') (L + (enc (z k)).length) (cells (textTo z keep k) ++ cells (enc (z k)))) (hkept : Kept wr w' R (Value.slice a L cap).ownBlock) :
    TextSt w1 w' R z keep (k + 1) a' (L + (enc (z k)).length) cap' := by
  obtain ⟨h1, h2, h3, h4, h5⟩ := h
  have e := textTo_adds (z := z) (keep := keep) (k := k) (by omega)
  refine ⟨by rw [e, List.length_append, ← h1], hR, ?_, h4.trans ⟨hkept.os, hkept.tape, hkept.output, hkept.size, fun j hj => hkept.block j (by omega) (by omega) ?_⟩, Nat.le_trans h5 hkept.size⟩
  · rw [e]; simpa [cells] using hown
  · rcases h3.2 with ⟨hv, _⟩ | ⟨g, c, cur, hv, hg, _⟩
    · rw [hv]; simp [Value.ownBlock]
    · rw [hv]; simp [Value.ownBlock]; omega
theorem TextSt.stays {w1 wr : World} {R : Nat} {z : Nat → Int} {keep : Int} {k : Nat} {a : Option Addr} {L cap : Nat} (h : TextSt w1 wr R z keep k a L cap) (hk : keep ≤ (L : Int)) : TextSt w1 wr R z keep (k + 1) a L cap := by
  obtain ⟨h1, h2, h3, h4, h5⟩ := h
  have e := textTo_stays (z := z) (keep := keep) (k := k) (by omega)
  exact ⟨by rw [e]; exact h1, h2, by rw [e]; exact h3, h4, h5⟩

theorem own_cap {w : World} {B n cap : Nat} {a : Option Addr} {xs : List Value} (h : w.ownsRow B 5 1 (.slice a n cap) n xs) : n ≤ cap := by
  rcases h.2 with ⟨_, h0⟩ | ⟨g, cap', cur, hv, _, _, hnc, _⟩
  · omega
  · simp only [Value.slice.injEq] at hv
    omega
theorem reader_later {w w' : World} {R : Nat} {v : Value} (h : ReaderIs w R v) (hb : Below w.heap.size w w') : ReaderIs w' R v := h.same (hb.block R h.lt)

theorem zzbytes27_yes (a : Option Addr) (n cap : Nat) (keep : Int) (w : World) (hn : n ≤ 1048576) :
    Calls Try.prog 27 #[.slice a n cap, .int .i64 keep] w fun e w' => e = .returned (.bool true) ∧ w = w' := by
  go_enter Try.func27, Try.ntmps27
  go_wp2
  go_ret
  exact ⟨rfl, rfl⟩
theorem zzbytes27_no (a : Option Addr) (n cap : Nat) (keep : Int) (w : World) (hn : 1048576 < n) :
    Calls Try.prog 27 #[.slice a n cap, .int .i64 keep] w fun e w' => e = .returned (.bool false) ∧ w = w' := by
  go_enter Try.func27, Try.ntmps27
  go_wp2
  go_ret
  exact ⟨rfl, rfl⟩

theorem keeps_early (a : Option Addr) (n cap : Nat) (keep : Int) (w : World) (hn : 65536 < n) :
    Calls Try.prog 7 #[.slice a n cap, .int .i64 keep] w fun e w' => e = .returned (.bool true) ∧ Below w.heap.size w w' := by
  by_cases h : n ≤ 1048576
  · go_enter Try.func7, Try.ntmps7
    go_wp2_with (go_at_call 27; refine (zzbytes27_yes a n cap keep _ h).mono ?_; rintro e w1 ⟨rfl, rfl⟩)
    go_ret
    exact ⟨rfl, Below.refl _ _⟩
  · go_enter Try.func7, Try.ntmps7
    go_wp2_with (go_at_call 27; refine (zzbytes27_no a n cap keep _ (by omega)).mono ?_; rintro e w1 ⟨rfl, rfl⟩)
    go_ret
    exact ⟨rfl, Below.refl _ _⟩

set_option maxRecDepth 100000 in
set_option maxHeartbeats 4000000 in
theorem keeps_main (a : Option Addr) (n cap : Nat) (z : Nat → Int) (keep : Int) (w : World) (hn : n ≤ 65536) (hz : ∀ i, -2147483648 ≤ z i ∧ z i ≤ 2147483647) (hr : CRow w a n (fun i => .int .i32 (z i))) :
    Calls Try.prog 7 #[.slice a n cap, .int .i64 keep] w fun e w' => e = .returned (.bool true) ∧ Below w.heap.size w w' := by
  have hd : decide ((65536 : Int) < (n : Int)) = false := by simp; omega
  go_enter Try.func7, Try.ntmps7
  go_wp2_with (go_at_call 27; refine (zzbytes27_yes a n cap keep _ (by omega)).mono ?_; rintro e w1 ⟨rfl, rfl⟩)
  go_loopw [5, 6, 7, 8] (fun v sm sr i wr => ∃ (k m L cap' : Nat) (a' : Option Addr) (r : Bool), k ≤ n ∧ L ≤ 4 * k ∧ m ≤ L ∧ i = .int .i64 k ∧ sm = .int .i64 m ∧ sr = .bool r ∧ v = .slice a' L cap' ∧ FullSt w wr z k a' L cap' ∧ CutSt z keep k m r) (fun _ _ _ i _ => n - (intOf i).toNat)
  case atStart => exact ⟨0, 0, 0, 0, none, decide (keep ≤ 0), Nat.zero_le _, Nat.zero_le _, Nat.zero_le _, rfl, rfl, rfl, rfl, ⟨rfl, World.ownsRow_nil _ _ _ _, Below.refl _ _⟩, CutSt.start z keep⟩
  case round =>
    obtain ⟨k, m, L, cap', a', r, hk, hL, hm, rfl, rfl, rfl, rfl, hF, hC⟩ := hrel
    by_cases hlt : k < n
    · obtain h0 | ⟨g1, o1, rfl, hg1, hc1⟩ := (hr.later hF.2.2).2
      · omega
      have q1 := hc1 k hlt
      clear hc1
      obtain ⟨z0, z1⟩ := hz k
      have hsz := hF.2.2.size
      go_wp2_with fail
      refine (enc_any (z k) z0 z1 w.heap.size _ L _ _ hF.2.1 (by omega) hsz).mono ?_
      rintro e w2 ⟨v', rfl, hown2, hb2⟩
      obtain ⟨a2, cap2, hv⟩ := own_shape hown2
      subst hv
      have hel := enc_len (z k)
      have hF2 : FullSt w w2 z (k + 1) a2 (L + (enc (z k)).length) cap2 := ⟨by rw [fullTo, List.length_append, ← hF.1], by simpa [fullTo, cells] using hown2, hF.2.2.trans hb2⟩
      generalize (enc (z k)).length = E at *
      cases r
      · go_wp2
        go_roundw
        case rel => exact ⟨k + 1, L + E, L + E, cap2, a2, decide (keep ≤ ((L + E : Nat) : Int)), by omega, by omega, by omega, by go_num, by go_num, by simp, rfl, hF2, by have h := hC.grow; rw [← hF2.1] at h; exact h⟩
        case measure => simp [intOf]; omega
      · go_wp2
        go_roundw
        case rel => exact ⟨k + 1, m, L + E, cap2, a2, true, by omega, by omega, by omega, by go_num, rfl, rfl, rfl, hF2, hC.stay⟩
        case measure => simp [intOf]; omega
    · have hkn : k = n := by omega
      subst hkn
      obtain ⟨hF1, hF2, hF3⟩ := hF
      have HF1 : Hid _ := hF1
      clear hF1
      go_wp2_with fail
      refine (newReader_any _).mono ?_
      rintro e w1 ⟨R, cs, rfl, hR0, hR1, hR2, hR3, hR4, hb1⟩
      have hRI : ReaderIs w1 R (.slice none 0 0) := ⟨cs, hR0, hR1, hR2⟩
      have HR3 : Hid _ := hR3
      clear hR0 hR1 hR2 hR3
      have hB1 : Below w.heap.size w w1 := below_call hF3 hb1
      have hwR := hF3.size
      have hlen := fullTo_len z k
      have HB : Hid (∀ w2, Below R w1 w2 → Below w.heap.size w w2) := fun w2 h => hB1.trans (h.mono (by omega))
      have HF : Hid (∀ w2, Below R w1 w2 → CRow w2 a' L (fun i => .int .u8 ((fullTo z k).getD i 0))) := fun w2 h => (own_row hF2 (by omega)).later (hb1.trans (h.mono hR4))
      have hLc := own_cap hF2
      clear hF2 hF3 hb1 hB1
      go_wp2_with fail
      go_loopw [10] (fun i wr2 => ∃ (k2 L2 cap2 : Nat) (a2 : Option Addr), k2 ≤ k ∧ L2 ≤ 4 * k2 ∧ i = .int .i64 k2 ∧ TextSt w1 wr2 R z keep k2 a2 L2 cap2) (fun i _ => k - (intOf i).toNat)
      case atStart => exact ⟨0, 0, 0, none, Nat.zero_le _, Nat.zero_le _, rfl, rfl, hRI, World.ownsRow_nil _ _ _ _, Below.refl _ _, by rw [HR3.out]; omega⟩
      case round =>
        obtain ⟨k2, L2, cap2, a2, hk2, hL2, rfl, hT⟩ := hrel
        have hBR := HB.out wr hT.2.2.2.1
        by_cases hlt2 : k2 < k
        · obtain h0 | ⟨g1, o1, rfl, hg1, hc1⟩ := (hr.later hBR).2
          · omega
          have q1 := hc1 k2 hlt2
          clear hc1
          obtain ⟨z0, z1⟩ := hz k2
          by_cases hkp : (L2 : Int) < keep
          · go_wp2_with fail
            refine (zzput_adds R (R + 1) a2 L2 cap2 _ (z k2) keep z0 z1 _ hT.2.1 hT.2.2.1 (by omega) hT.2.2.2.2 hkp).mono ?_
            rintro e w2 ⟨rfl, a3, cap3, h1, h2, h3⟩
            have hT2 := hT.adds hkp h1 h2 h3
            have hel := enc_len (z k2)
            go_wp2
            go_roundw
            case rel => exact ⟨k2 + 1, _, cap3, a3, by omega, by omega, by go_num, hT2⟩
            case measure => simp [intOf]; omega
          · go_wp2_with fail
            refine (zzput_stays R a2 L2 cap2 (z k2) keep _ hT.2.1 (by omega)).mono ?_
            rintro e w2 ⟨rfl, HW2⟩
            have hT2 := hT.stays (by omega)
            rw [← HW2] at hT2
            clear HW2
            go_wp2
            go_roundw
            case rel => exact ⟨k2 + 1, L2, cap2, a2, by omega, by omega, by go_num, hT2⟩
            case measure => simp [intOf]; omega
        · have hkk : k2 = k := by omega
          subst hkk
          obtain ⟨hC1, hC2, _⟩ := hC
          have hLm : L2 = m := by rw [hT.1, hC1]
          subst hLm
          have rT := own_row hT.2.2.1 (by omega)
          have rF := ((HF.out wr hT.2.2.2.1).cut hm).congr (g := fun i => .int .u8 ((textTo z keep k2).getD i 0)) (fun i hi => by
            show Value.int .u8 ((fullTo z k2).getD i 0) = Value.int .u8 ((textTo z keep k2).getD i 0)
            rw [hC2]; simp [List.getElem?_take_of_lt hi])
          have hRI2 := hT.2.1
          have HC1 : Hid _ := hC1
          clear hC1 hC2 hT HF HB HR3 HF1 hRI hr
          have hmc : (L2 : Int) ≤ (cap' : Int) := by omega
          go_wp2
          go_region_held3 (fun w' => Below wr.heap.size wr w')
            (first | exact (Below.refl _ _).drew | assumption | exact below_call (by assumption) (by assumption))
            (first
              | (go_at_call 23; refine (zztext_any R a2 L2 cap2 _ ?_).mono ?_; (exact reader_later hRI2 (by assumption)); rintro e w' ⟨rfl, rfl⟩)
              | (go_at_call 14; refine (equal_any _ _ L2 _ _ (fun i => (textTo z keep k2).getD i 0) _ ?_ ?_).mono ?_; (exact rT.later (by assumption)); (exact rF.later (by assumption)); rintro e w' ⟨rfl, hb⟩))
          rename_i hS
          have hB := below_call hBR hS
          go_wp2
          go_ret
          exact ⟨rfl, hB⟩
end Go.Proofs.Qxb6612405a
