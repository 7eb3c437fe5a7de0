/-
  THE WALKS OF (Totals).Counted AND ZZcountedIn.
-/
import Derived.Test.Qxb6612376aRead
import Derived.Test.Qxb6612376aSumPlain
namespace Go.Proofs.Qxb6612376a
open Go.RowKit

/-- Totals in memory: n rows of four cells in block g: the body, the two words, the count. -/
def TRow (w : World) (g n : Nat) (f : Nat → ByteArray) (hi lo ns : Nat → Int) : Prop :=
  g < w.heap.size ∧ ∀ i, i < n → w.cell? ⟨g, i * 4, none⟩ = some (.string (f i)) ∧ w.cell? ⟨g, i * 4 + 1, none⟩ = some (.int .u64 (hi i)) ∧ w.cell? ⟨g, i * 4 + 2, none⟩ = some (.int .u64 (lo i)) ∧ w.cell? ⟨g, i * 4 + 3, none⟩ = some (.int .i64 (ns i))

theorem TRow.later {w w' : World} {g n : Nat} {f : Nat → ByteArray} {hi lo ns : Nat → Int} (h : TRow w g n f hi lo ns) (hb : Below w.heap.size w w') : TRow w' g n f hi lo ns := by
  obtain ⟨h0, h⟩ := h
  refine ⟨Nat.lt_of_lt_of_le h0 hb.size, fun i hi => ?_⟩
  obtain ⟨h1, h2, h3, h4⟩ := h i hi
  exact ⟨cell_later hb h1, cell_later hb h2, cell_later hb h3, cell_later hb h4⟩

/-- Three cells of a block that the call itself laid: what they hold; none frozen. -/
def Own3 (w : World) (b : Nat) (x y z : Value) : Prop :=
  (w.cell? ⟨b, 0, none⟩ = some x ∧ w.cell? ⟨b, 1, none⟩ = some y ∧ w.cell? ⟨b, 2, none⟩ = some z) ∧ (w.frozen? ⟨b, 0, none⟩ = false ∧ w.frozen? ⟨b, 1, none⟩ = false ∧ w.frozen? ⟨b, 2, none⟩ = false)

theorem Own3.lt {w : World} {b : Nat} {x y z : Value} (h : Own3 w b x y z) : b < w.heap.size := World.block_lt_of_cell? _ ⟨b, 0, none⟩ h.1.1
theorem Own3.later {w w' : World} {b : Nat} {x y z : Value} (h : Own3 w b x y z) (hb : Below w.heap.size w w') : Own3 w' b x y z := by
  have hlt := h.lt
  obtain ⟨⟨h1, h2, h3⟩, h4, h5, h6⟩ := h
  exact ⟨⟨cell_later hb h1, cell_later hb h2, cell_later hb h3⟩, (hb.frozen (p := ⟨b, 0, none⟩) hlt).trans h4, (hb.frozen (p := ⟨b, 1, none⟩) hlt).trans h5, (hb.frozen (p := ⟨b, 2, none⟩) hlt).trans h6⟩
theorem Own3.set {w : World} {b : Nat} {x y z : Value} (h : Own3 w b x y z) (x' y' z' : Value) :
    Own3 (((w.setCell ⟨b, 0, none⟩ x').setCell ⟨b, 1, none⟩ y').setCell ⟨b, 2, none⟩ z') b x' y' z' := by
  obtain ⟨⟨h1, h2, h3⟩, h4, h5, h6⟩ := h
  refine ⟨⟨?_, ?_, ?_⟩, by simpa using h4, by simpa using h5, by simpa using h6⟩
  · rw [World.cell?_setCell_other _ _ _ _ (by simp), World.cell?_setCell_other _ _ _ _ (by simp)]
    exact World.cell?_setCell_same _ _ _ h1
  · rw [World.cell?_setCell_other _ _ _ _ (by simp)]
    exact World.cell?_setCell_same (u := y) _ _ _ (by rw [World.cell?_setCell_other _ _ _ _ (by simp)]; exact h2)
  · exact World.cell?_setCell_same (u := z) _ _ _ (by rw [World.cell?_setCell_other _ _ _ _ (by simp), World.cell?_setCell_other _ _ _ _ (by simp)]; exact h3)
theorem Own3.setOther {w : World} {b c : Nat} {x y z : Value} (h : Own3 w b x y z) (hne : c ≠ b) (x' y' z' : Value) :
    Own3 (((w.setCell ⟨c, 0, none⟩ x').setCell ⟨c, 1, none⟩ y').setCell ⟨c, 2, none⟩ z') b x y z := by
  obtain ⟨⟨h1, h2, h3⟩, h4, h5, h6⟩ := h
  refine ⟨⟨?_, ?_, ?_⟩, by simpa using h4, by simpa using h5, by simpa using h6⟩
  all_goals
    rw [World.cell?_setCell_other _ _ _ _ (fun e => hne (congrArg Addr.block e)), World.cell?_setCell_other _ _ _ _ (fun e => hne (congrArg Addr.block e)), World.cell?_setCell_other _ _ _ _ (fun e => hne (congrArg Addr.block e))]
    assumption

/-- What holds of the loop's world: all old memory is as it was; block B (the result) holds zeros, block B + 1 the sum. -/
def CountW (w wr : World) (x y z : Int) : Prop :=
  Below w.heap.size w wr ∧ Own3 wr w.heap.size (.int .u64 0) (.int .u64 0) (.int .i64 0) ∧ Own3 wr (w.heap.size + 1) (.int .u64 x) (.int .u64 y) (.int .i64 z)

theorem CountW.start (w : World) : CountW w ((w.alloc (.cells #[.int .u64 0, .int .u64 0, .int .i64 0] 24)).alloc (.cells #[.int .u64 0, .int .u64 0, .int .i64 0] 24)) 0 0 0 := by
  refine ⟨((Below.refl _ _).alloc (Nat.le_refl _) _).alloc (by simp) _, ?_, ?_⟩ <;> simp [Own3, go_sem]
theorem CountW.later {w wr wr' : World} {x y z : Int} (h : CountW w wr x y z) (hb : Below wr.heap.size wr wr') : CountW w wr' x y z :=
  ⟨below_call h.1 hb, h.2.1.later hb, h.2.2.later hb⟩
theorem CountW.alloc {w wr : World} {x y z : Int} (h : CountW w wr x y z) (o : Obj) : CountW w (wr.alloc o) x y z := h.later ((Below.refl _ _).alloc (Nat.le_refl _) _)
theorem CountW.set {w wr : World} {x y z : Int} (h : CountW w wr x y z) (x' y' z' : Int) :
    CountW w (((wr.setCell ⟨w.heap.size + 1, 0, none⟩ (.int .u64 x')).setCell ⟨w.heap.size + 1, 1, none⟩ (.int .u64 y')).setCell ⟨w.heap.size + 1, 2, none⟩ (.int .i64 z')) x' y' z' :=
  ⟨below_store3 h.1 (by omega) _ _ _ _ _ _, h.2.1.setOther (by omega) _ _ _, h.2.2.set _ _ _⟩

set_option maxHeartbeats 1600000 in
theorem counted_any (g n c m cap : Nat) (ao : Option Addr) (f fc : Nat → ByteArray) (hi lo ns : Nat → Int) (w : World) (hn : n ≤ 65536)
    (hT : TRow w g n f hi lo ns) (hcap : w.cell? ⟨c, 0, none⟩ = some (.slice ao m cap)) (hr : CRow w ao m (fun i => .string (fc i)))
    (whi : ∀ i, Word (hi i)) (wlo : ∀ i, Word (lo i)) :
    Calls Try.prog 22 #[.slice (some ⟨g, 0, none⟩) n n, .func (.func 23) #[] #[.pointer (some ⟨c, 0, none⟩)]] w fun e w' =>
      e = .returned (.agg #[.int .u64 (tot (fun i => memb fc (f i) m) hi lo n / 18446744073709551616 % 18446744073709551616), .int .u64 (tot (fun i => memb fc (f i) m) hi lo n % 18446744073709551616), .int .i64 (wrap64 (limb (fun i => memb fc (f i) m) ns n))]) ∧ Below w.heap.size w w' := by
  have HT : Hid (TRow w g n f hi lo ns) := hT
  have HCAP : Hid _ := hcap
  clear hT hcap
  go_enter Try.func22, Try.ntmps22
  go_wp2
  go_loopw [10] (fun i wr => ∃ (k : Nat), k ≤ n ∧ i = .int .i64 k ∧ CountW w wr (tot (fun i => memb fc (f i) m) hi lo k / 18446744073709551616 % 18446744073709551616) (tot (fun i => memb fc (f i) m) hi lo k % 18446744073709551616) (wrap64 (limb (fun i => memb fc (f i) m) ns k))) (fun i _ => n - (intOf i).toNat)
  case atStart => exact ⟨0, Nat.zero_le _, rfl, by simpa [tot, limb, wrap64] using CountW.start w⟩
  case round =>
    obtain ⟨k, hk, rfl, hW⟩ := hrel
    generalize hx : tot (fun i => memb fc (f i) m) hi lo k / 18446744073709551616 % 18446744073709551616 = x at hW
    generalize hy : tot (fun i => memb fc (f i) m) hi lo k % 18446744073709551616 = y at hW
    generalize hz : wrap64 (limb (fun i => memb fc (f i) m) ns k) = z at hW
    have wx : Word x := by rw [← hx]; exact word_mod _
    have wy : Word y := by rw [← hy]; exact word_mod _
    have HX : Hid _ := hx
    have HY : Hid _ := hy
    have HZ : Hid _ := hz
    clear hx hy hz
    have hs := hW.2.2.lt
    by_cases hlt : k < n
    · obtain ⟨hg, hT'⟩ := HT.out.later hW.1
      obtain ⟨q0, q1, q2, q3⟩ := hT' k hlt
      clear hT'
      go_wp2_with fail
      refine (closure_any c ao m cap fc (f k) _ ?hcap ?hrow).mono ?_
      case hcap => exact cell_later (hW.1.alloc hW.1.size _) HCAP.out
      case hrow => exact hr.later (hW.1.alloc hW.1.size _)
      rintro e w1 ⟨rfl, rfl⟩
      have hW1 := hW.alloc (.cells #[.string (f k), .int .u64 (hi k), .int .u64 (lo k), .int .i64 (ns k)] 48)
      cases hm : memb fc (f k) m
      · go_wp2
        go_roundw
        case rel => exact ⟨k + 1, by omega, by go_num, by rw [tot_no (p := fun i => memb fc (f i) m) hm, limb_no (p := fun i => memb fc (f i) m) hm, HX.out, HY.out, HZ.out]; exact hW1⟩
        case measure => simp [intOf]; omega
      · obtain ⟨⟨c0, c1, c2⟩, z0, z1, z2⟩ := hW1.2.2
        go_wp2_with fail
        refine (plus_any x y z (hi k) (lo k) (ns k) wx wy (whi k) (wlo k) _).mono ?_
        rintro e w2 ⟨rfl, hb2⟩
        have hW2 := hW1.later hb2
        clear c0 c1 c2 z0 z1 z2
        obtain ⟨⟨c0, c1, c2⟩, z0, z1, z2⟩ := hW2.2.2
        go_wp2
        go_roundw
        case rel => exact ⟨k + 1, by omega, by go_num, by rw [tot_yes (p := fun i => memb fc (f i) m) hm, limb_yes (p := fun i => memb fc (f i) m) hm, ← plus_hi, ← plus_lo (h := hi k), HX.out, HY.out, ← wrap_wrap_add (limb (fun i => memb fc (f i) m) ns k) (ns k), HZ.out]; exact hW2.set _ _ _⟩
        case measure => simp [intOf]; omega
    · have hkn : k = n := by omega
      subst hkn
      obtain ⟨⟨c0, c1, c2⟩, z0, z1, z2⟩ := hW.2.2
      obtain ⟨⟨d0, d1, d2⟩, y0, y1, y2⟩ := hW.2.1
      go_wp2
      rw [HX.out, HY.out, HZ.out]
      exact bodyPost_ret (v := .agg #[.int .u64 x, .int .u64 y, .int .i64 z]) (by simp [results, Try.results22, go_sem, d0, d1, d2]) rfl
        ⟨rfl, below_store3 hW.1 (Nat.le_refl _) _ _ _ _ _ _⟩

/-- ZZcountedIn: the total of the rows whose body is among the chosen ones. -/
theorem zzcounted_any (g n m cap : Nat) (ao : Option Addr) (f fc : Nat → ByteArray) (hi lo ns : Nat → Int) (w : World) (hn : n ≤ 65536)
    (hT : TRow w g n f hi lo ns) (hr : CRow w ao m (fun i => .string (fc i))) (whi : ∀ i, Word (hi i)) (wlo : ∀ i, Word (lo i)) :
    Calls Try.prog 15 #[.slice (some ⟨g, 0, none⟩) n n, .slice ao m cap] w fun e w' =>
      e = .returned (.agg #[.int .u64 (tot (fun i => memb fc (f i) m) hi lo n / 18446744073709551616 % 18446744073709551616), .int .u64 (tot (fun i => memb fc (f i) m) hi lo n % 18446744073709551616), .int .i64 (wrap64 (limb (fun i => memb fc (f i) m) ns n))]) ∧ Below w.heap.size w w' := by
  go_enter Try.func15, Try.ntmps15
  go_wp2_with fail
  have hB : Below w.heap.size w ((w.alloc (.cells #[.slice ao m cap] 32)).alloc (.cells #[.int .u64 0, .int .u64 0, .int .i64 0] 24)) := ((Below.refl _ _).alloc (Nat.le_refl _) _).alloc (by simp) _
  refine (counted_any g n w.heap.size m cap ao f fc hi lo ns _ hn (hT.later hB) ?hcap (hr.later hB) whi wlo).mono ?_
  case hcap => simp
  rintro e w1 ⟨rfl, hb⟩
  obtain ⟨hc, hf⟩ := bcell hb
  go_wp2
  exact bodyPost_ret (v := .agg #[.int .u64 (tot (fun i => memb fc (f i) m) hi lo n / 18446744073709551616 % 18446744073709551616), .int .u64 (tot (fun i => memb fc (f i) m) hi lo n % 18446744073709551616), .int .i64 (wrap64 (limb (fun i => memb fc (f i) m) ns n))]) (by simp [results, Try.results15, go_sem, hc]) rfl
    ⟨rfl, below_store3 (below_call hB hb) (by omega) _ _ _ _ _ _⟩
end Go.Proofs.Qxb6612376a
