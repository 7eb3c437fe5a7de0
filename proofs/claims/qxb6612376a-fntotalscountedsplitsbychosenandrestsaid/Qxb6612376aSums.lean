/-
  WALKS OF THE SUM FUNCTIONS: math/bits.Add64 | Sub64, limbsOf, sub128ByComplement, ZZnewSum, ZZsumParts, (Sum).plus | minus, ZZplus | ZZminus.
-/
import Derived.Test.Qxb6612376aRows
import Derived.Test.Qxb6612376aPlain
import Derived.WalkKit
import Derived.WalkSpells
import Derived.Deep.QuietTactic
import Derived.BigQuiet
import Derived.Shelf.Spec.BitsCarry
namespace Go.Proofs.Qxb6612376a
open Go.RowKit

theorem bcell {W w1 : World} (hb : Below W.heap.size W w1) : (∀ b o, b < W.heap.size → w1.cell? ⟨b, o, none⟩ = W.cell? ⟨b, o, none⟩) ∧ (∀ b o, b < W.heap.size → w1.frozen? ⟨b, o, none⟩ = W.frozen? ⟨b, o, none⟩) :=
  ⟨fun b o h => hb.cell (p := ⟨b, o, none⟩) h, fun b o h => hb.frozen (p := ⟨b, o, none⟩) h⟩

/-- A callee behind what was done so far. -/
theorem below_call {w w1 w2 : World} (h1 : Below w.heap.size w w1) (h2 : Below w1.heap.size w1 w2) : Below w.heap.size w w2 := h1.trans (h2.mono h1.size)
/-- A new block, then a callee, behind what was done so far. -/
theorem below_alloc_call {w w1 w2 : World} {o : Obj} (h1 : Below w.heap.size w w1) (h2 : Below (w1.alloc o).heap.size (w1.alloc o) w2) : Below w.heap.size w w2 :=
  below_call (h1.alloc h1.size o) h2

theorem add64_0 (x y : Int) (hx : 0 ≤ x) (hy : 0 ≤ y) (w : World) : (callFunc 26 #[.int .u64 x, .int .u64 y, .int .u64 0]).run Try.prog w =
    .ok (.value (.tuple #[.int .u64 ((x + y) % 18446744073709551616), .int .u64 ((x + y) / 18446744073709551616)])) w := by
  obtain ⟨x, rfl⟩ := Int.eq_ofNat_of_zero_le hx
  obtain ⟨y, rfl⟩ := Int.eq_ofNat_of_zero_le hy
  rw [run_callFunc_extern Try.func26 (by kernel_rfl) (by kernel_rfl) (by kernel_rfl) (e := add64Entry) (by kernel_rfl), run_add64 x y 0 (by omega) (by omega) (by omega) (by omega)]
  simp only [Result.andThen]
  congr 5 <;> omega

theorem sub64_0 (x y : Int) (hx : 0 ≤ x) (hy : 0 ≤ y) (hy' : y < 18446744073709551616) (w : World) : (callFunc 25 #[.int .u64 x, .int .u64 y, .int .u64 0]).run Try.prog w =
    .ok (.value (.tuple #[.int .u64 ((x - y) % 18446744073709551616), .int .u64 (bor x y)])) w := by
  obtain ⟨x, rfl⟩ := Int.eq_ofNat_of_zero_le hx
  obtain ⟨y, rfl⟩ := Int.eq_ofNat_of_zero_le hy
  have e1 : (((x + 18446744073709551616 - y - 0) % 18446744073709551616 : Nat) : Int) = ((x : Int) - y) % 18446744073709551616 := by omega
  have e2 : ((if x < y + 0 then 1 else 0 : Nat) : Int) = bor x y := by unfold bor; split <;> split <;> omega
  rw [← e1, ← e2, run_callFunc_extern Try.func25 (by kernel_rfl) (by kernel_rfl) (by kernel_rfl) (e := sub64Entry) (by kernel_rfl)]
  have := run_sub64 (P := Try.prog) x y 0 (by omega) w
  simp only [Int.natCast_zero] at this
  rw [this]
  rfl

/-- limbsOf. -/
theorem limbs_any (hi lo : Int) (h1 : Word hi) (h2 : Word lo) (w : World) :
    Calls Try.prog 20 #[.int .u64 hi, .int .u64 lo] w fun e w' =>
      e = .returned (.tuple #[.int .u64 (lo % 4294967296), .int .u64 (lo / 4294967296), .int .u64 (hi % 4294967296), .int .u64 (hi / 4294967296)]) ∧ w' = w := by
  obtain ⟨a1, a2⟩ := h1; obtain ⟨b1, b2⟩ := h2
  have m1 := and_mask hi a1 a2
  have m2 := and_mask lo b1 b2
  go_enter Try.func20, Try.ntmps20
  go_wp2
  refine bodyPost_ret (v := .tuple #[.int .u64 (lo % 4294967296), .int .u64 (lo / 4294967296), .int .u64 (hi % 4294967296), .int .u64 (hi / 4294967296)]) (by simp [results, Try.results20, go_sem]) rfl ⟨rfl, rfl⟩

/-- ZZnewSum. -/
theorem newSum_any (hi lo n : Int) (w : World) :
    Calls Try.prog 7 #[.int .u64 hi, .int .u64 lo, .int .i64 n] w fun e w' =>
      e = .returned (.agg #[.int .u64 hi, .int .u64 lo, .int .i64 n]) ∧ Below w.heap.size w w' := by
  go_enter Try.func7, Try.ntmps7
  go_wp2
  refine bodyPost_ret (v := .agg #[.int .u64 hi, .int .u64 lo, .int .i64 n]) (by simp [results, Try.results7, go_sem]) rfl ⟨rfl, (Below.refl _ _).alloc (Nat.le_refl _) _⟩

/-- ZZsumParts. -/
theorem parts_any (hi lo n : Int) (w : World) :
    Calls Try.prog 8 #[.agg #[.int .u64 hi, .int .u64 lo, .int .i64 n]] w fun e w' =>
      e = .returned (.tuple #[.int .u64 hi, .int .u64 lo, .int .i64 n]) ∧ Below w.heap.size w w' := by
  go_enter Try.func8, Try.ntmps8
  go_wp2
  go_region
  all_goals (go_wp2; go_ret3; exact ⟨rfl, ((Below.refl _ _).alloc (Nat.le_refl _) _).drew⟩)

/-- (Sum).minus. -/
theorem minus_any (ah al an bh bl bn : Int) (h1 : Word ah) (h2 : Word al) (h3 : Word bh) (h4 : Word bl) (w : World) :
    Calls Try.prog 19 #[.agg #[.int .u64 ah, .int .u64 al, .int .i64 an], .agg #[.int .u64 bh, .int .u64 bl, .int .i64 bn]] w fun e w' =>
      e = .returned (.agg #[.int .u64 ((ah - bh - bor al bl) % 18446744073709551616), .int .u64 ((al - bl) % 18446744073709551616), .int .i64 (wrap64 (an - bn))]) ∧ Below w.heap.size w w' := by
  obtain ⟨a1, a2⟩ := h1; obtain ⟨b1, b2⟩ := h2; obtain ⟨c1, c2⟩ := h3; obtain ⟨d1, d2⟩ := h4
  obtain ⟨k0, k1⟩ := bor_01 al bl
  go_enter Try.func19, Try.ntmps19
  go_wp2_with (simp only [sub64_0 al bl b1 d1 d2])
  rw [wrap_sub2]
  exact bodyPost_ret (v := .agg #[.int .u64 ((ah - bh - bor al bl) % 18446744073709551616), .int .u64 ((al - bl) % 18446744073709551616), .int .i64 (wrap64 (an - bn))]) (by simp [results, Try.results19, go_sem]) rfl
    ⟨rfl, (((Below.refl _ _).alloc (Nat.le_refl _) _).alloc (by simp) _).alloc (by simp; omega) _⟩

/-- (Sum).plus. -/
theorem plus_any (ah al an bh bl bn : Int) (h1 : Word ah) (h2 : Word al) (h3 : Word bh) (h4 : Word bl) (w : World) :
    Calls Try.prog 21 #[.agg #[.int .u64 ah, .int .u64 al, .int .i64 an], .agg #[.int .u64 bh, .int .u64 bl, .int .i64 bn]] w fun e w' =>
      e = .returned (.agg #[.int .u64 ((ah + bh + (al + bl) / 18446744073709551616) % 18446744073709551616), .int .u64 ((al + bl) % 18446744073709551616), .int .i64 (wrap64 (an + bn))]) ∧ Below w.heap.size w w' := by
  obtain ⟨a1, a2⟩ := h1; obtain ⟨b1, b2⟩ := h2; obtain ⟨c1, c2⟩ := h3; obtain ⟨d1, d2⟩ := h4
  have k0 : 0 ≤ (al + bl) / 18446744073709551616 := by omega
  have k1 : (al + bl) / 18446744073709551616 ≤ 1 := by omega
  go_enter Try.func21, Try.ntmps21
  go_wp2_with (simp only [add64_0 al bl b1 d1])
  rw [wrap_add2]
  exact bodyPost_ret (v := .agg #[.int .u64 ((ah + bh + (al + bl) / 18446744073709551616) % 18446744073709551616), .int .u64 ((al + bl) % 18446744073709551616), .int .i64 (wrap64 (an + bn))]) (by simp [results, Try.results21, go_sem]) rfl
    ⟨rfl, (((Below.refl _ _).alloc (Nat.le_refl _) _).alloc (by simp) _).alloc (by simp; omega) _⟩

theorem below_store3 {B : Nat} {w w1 : World} (h : Below B w w1) {k : Nat} (hk : B ≤ k) (a0 a1 a2 : Nat) (u0 u1 u2 : Value) :
    Below B w (((w1.setCell ⟨k, a0, none⟩ u0).setCell ⟨k, a1, none⟩ u1).setCell ⟨k, a2, none⟩ u2) :=
  ((h.setCell (p := ⟨k, a0, none⟩) hk u0).setCell (p := ⟨k, a1, none⟩) hk u1).setCell (p := ⟨k, a2, none⟩) hk u2

/-- Three new blocks, then a callee, then a store into the third. -/
theorem below_call3 {w w1 : World} (o1 o2 o3 : Obj) (hb : Below (((w.alloc o1).alloc o2).alloc o3).heap.size (((w.alloc o1).alloc o2).alloc o3) w1) (a0 a1 a2 : Nat) (u0 u1 u2 : Value) :
    Below w.heap.size w (((w1.setCell ⟨w.heap.size + 1 + 1, a0, none⟩ u0).setCell ⟨w.heap.size + 1 + 1, a1, none⟩ u1).setCell ⟨w.heap.size + 1 + 1, a2, none⟩ u2) :=
  below_store3 (((((Below.refl _ _).alloc (Nat.le_refl _) _).alloc (by simp) _).alloc (by simp; omega) _).trans (hb.mono (by simp; omega))) (by omega) _ _ _ _ _ _

/-- ZZminus. -/
theorem zzminus_any (ah al an bh bl bn : Int) (h1 : Word ah) (h2 : Word al) (h3 : Word bh) (h4 : Word bl) (w : World) :
    Calls Try.prog 9 #[.agg #[.int .u64 ah, .int .u64 al, .int .i64 an], .agg #[.int .u64 bh, .int .u64 bl, .int .i64 bn]] w fun e w' =>
      e = .returned (.agg #[.int .u64 ((ah - bh - bor al bl) % 18446744073709551616), .int .u64 ((al - bl) % 18446744073709551616), .int .i64 (wrap64 (an - bn))]) ∧ Below w.heap.size w w' := by
  go_enter Try.func9, Try.ntmps9
  go_wp2_with (go_at_call 19; refine (minus_any ah al an bh bl bn h1 h2 h3 h4 _).mono ?_; rintro e w1 ⟨rfl, hb⟩; obtain ⟨hc, hf⟩ := bcell hb)
  exact bodyPost_ret (v := .agg #[.int .u64 ((ah - bh - bor al bl) % 18446744073709551616), .int .u64 ((al - bl) % 18446744073709551616), .int .i64 (wrap64 (an - bn))]) (by simp [results, Try.results9, go_sem, hc]) rfl
    ⟨rfl, below_call3 _ _ _ hb _ _ _ _ _ _⟩

/-- ZZplus. -/
theorem zzplus_any (ah al an bh bl bn : Int) (h1 : Word ah) (h2 : Word al) (h3 : Word bh) (h4 : Word bl) (w : World) :
    Calls Try.prog 11 #[.agg #[.int .u64 ah, .int .u64 al, .int .i64 an], .agg #[.int .u64 bh, .int .u64 bl, .int .i64 bn]] w fun e w' =>
      e = .returned (.agg #[.int .u64 ((ah + bh + (al + bl) / 18446744073709551616) % 18446744073709551616), .int .u64 ((al + bl) % 18446744073709551616), .int .i64 (wrap64 (an + bn))]) ∧ Below w.heap.size w w' := by
  go_enter Try.func11, Try.ntmps11
  go_wp2_with (go_at_call 21; refine (plus_any ah al an bh bl bn h1 h2 h3 h4 _).mono ?_; rintro e w1 ⟨rfl, hb⟩; obtain ⟨hc, hf⟩ := bcell hb)
  exact bodyPost_ret (v := .agg #[.int .u64 ((ah + bh + (al + bl) / 18446744073709551616) % 18446744073709551616), .int .u64 ((al + bl) % 18446744073709551616), .int .i64 (wrap64 (an + bn))]) (by simp [results, Try.results11, go_sem, hc]) rfl
    ⟨rfl, below_call3 _ _ _ hb _ _ _ _ _ _⟩

/-- sub128ByComplement. -/
theorem sub128_any (ah al bh bl : Int) (h1 : Word ah) (h2 : Word al) (h3 : Word bh) (h4 : Word bl) (w : World) :
    Calls Try.prog 10 #[.int .u64 ah, .int .u64 al, .int .u64 bh, .int .u64 bl] w fun e w' =>
      e = .returned (.tuple #[.int .u64 ((ah - bh - bor al bl) % 18446744073709551616), .int .u64 ((al - bl) % 18446744073709551616)]) ∧ w' = w := by
  have h1' := h1; have h2' := h2; have h3' := h3; have h4' := h4
  obtain ⟨a1, a2⟩ := h1'; obtain ⟨b1, b2⟩ := h2'; obtain ⟨c1, c2⟩ := h3'; obtain ⟨d1, d2⟩ := h4'
  have n0 := not_and_mask' (bl % 4294967296) (by omega) (by omega)
  have n1 := not_and_mask' (bl / 4294967296) (by omega) (by omega)
  have n2 := not_and_mask' (bh % 4294967296) (by omega) (by omega)
  have n3 := not_and_mask' (bh / 4294967296) (by omega) (by omega)
  have hs : IntKind.u64.signed = false := rfl
  go_enter Try.func10, Try.ntmps10
  go_wp2_with (go_at_call 20; refine (limbs_any _ _ (by assumption) (by assumption) _).mono ?_; rintro e w1 ⟨rfl, rfl⟩)
  rw [sub_lo_bits al bl h2 h4, sub_hi_bits ah al bh bl h1 h2 h3 h4]
  go_ret2
  exact ⟨rfl, rfl⟩
end Go.Proofs.Qxb6612376a
