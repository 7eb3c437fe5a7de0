/-
  THE WALK OF FnTotalsCountedSplitsByChosenAndRest where the lengths fit: one theorem a case (bodies nil or not, chosen nil or not), made by program from one text.
-/
import Derived.Test.Qxb6612376aSplitsParts
namespace Go.Proofs.Qxb6612376a
open Go.RowKit

set_option maxRecDepth 100000 in
set_option maxHeartbeats 4000000 in
theorem splits_noneNone (a0 a1 a2 a3 a4 : Option Addr) (n m c0 c1 c2 c3 c4 : Nat) (f fc : Nat → ByteArray) (hi lo ns : Nat → Int) (w : World) (hn : n ≤ 4096) (hm : m ≤ 4096)
    (r0 : CRow w a0 n (fun i => .string (f i))) (r1 : CRow w a1 n (fun i => .int .u64 (hi i))) (r2 : CRow w a2 n (fun i => .int .u64 (lo i))) (r3 : CRow w a3 n (fun i => .int .i64 (ns i))) (r4 : CRow w a4 m (fun i => .string (fc i)))
    (whi : ∀ i, Word (hi i)) (wlo : ∀ i, Word (lo i)) (g0 : a0.isNone = true) (g4 : a4.isNone = true) :
    Calls Try.prog 6 #[.slice a0 n c0, .slice a1 n c1, .slice a2 n c2, .slice a3 n c3, .slice a4 m c4] w fun e w' => e = .returned (.bool true) ∧ Below w.heap.size w w' := by
  have hne0 := fun w => run_neq_slice_nil_any (P := Try.prog) w 32 9 a0 n c0 0 0 Try.underlying32
  have hne4 := fun w => run_neq_slice_nil_any (P := Try.prog) w 32 9 a4 m c4 0 0 Try.underlying32
  simp only [g0] at hne0
  simp only [g4] at hne4
  clear g0 g4
  obtain ⟨C0, hC0, hmk0⟩ := make_strings n (by omega)
  obtain ⟨C4, hC4, hmk4⟩ := make_strings m (by omega)
  have HC0 : Hid _ := hC0
  have HC4 : Hid _ := hC4
  clear hC0 hC4
  go_enter Try.func6, Try.ntmps6
  go_wp2_with fail
  refine (zzbytes17_any a0 a1 a2 a3 a4 n n n n m c0 c1 c2 c3 c4 f fc _ r0 r4).mono ?_
  rintro e w ⟨⟨r, rfl⟩, rfl⟩
  cases r
  · go_wp2
    go_ret
    exact ⟨rfl, Below.refl _ _⟩
  go_wp2_with fail
  refine (sbytes_any a0 n c0 f _ r0).mono ?_
  rintro e w ⟨s1, rfl, rfl⟩
  go_wp2_with fail
  refine (sbytes_any a4 m c4 fc _ r4).mono ?_
  rintro e w ⟨s2, rfl, rfl⟩
  obtain ⟨W2, HW2, r0', hB0⟩ : ∃ W2, Hid (W2 = w) ∧ CRow W2 a0 n (fun i => .string (f i)) ∧ Below w.heap.size w W2 := ⟨w, rfl, r0, Below.refl _ _⟩
  go_wp2_with fail
  · go_ret
    exact ⟨rfl, Below.refl _ _⟩
  have hB := Below.refl w.heap.size w
  have rb := r0
  have rc := r4
  clear HW2 r0' hB0
  clear hmk0 hmk4 hne0 hne4 HC0 HC4
  refine (build_any _ a1 a2 a3 n _ c1 c2 c3 f hi lo ns _ (by omega) rb (r1.later hB) (r2.later hB) (r3.later hB)).mono ?_
  rintro e w3 ⟨rfl, hT, hb3⟩
  have hB3 := below_call hB hb3
  have rb3 := rb.later hb3
  have rc3 := rc.later hb3
  clear rb rc hb3
  obtain ⟨Cr, hCr, hmkr⟩ := make_rest n (by omega)
  obtain ⟨i9, hi9, _, hz9, _⟩ := info_parts (show (Try.prog.info? 9).map (fun i => (i.zero, i.size, i.bytes)) = some (some (.string ByteArray.empty), 1, 16) by kernel_rfl)
  have HCr : Hid _ := hCr
  clear hCr
  go_wp2_with fail
  go_loopw [14, 15] (fun v i wr => ∃ (k j : Nat), k ≤ n ∧ j ≤ k ∧ i = .int .i64 k ∧ v = .slice (some ⟨w3.heap.size, 0, none⟩) j n ∧ RestSt w3 wr n f fc m k j) (fun _ i _ => n - (intOf i).toNat)
  case atStart => exact ⟨0, 0, Nat.zero_le _, Nat.zero_le _, rfl, rfl, rfl, RestW.start w3 n (by omega) Cr HCr.out⟩
  case round =>
    obtain ⟨k, j, hk, hj, rfl, rfl, hR⟩ := hrel
    clear hmkr HCr
    have hbr := hR.2.1
    have rbr := rb3.later hbr
    have rcr := rc3.later hbr
    by_cases hlt : k < n
    · obtain h0 | ⟨bb, ob, rfl, _, hcc⟩ := rbr.2
      · omega
      have hck := hcc k hlt
      clear hcc
      cases hmm : memb fc (f k) m
      · have hown := hR.own
        go_wp2_with (first | (go_at_call 18; refine (member_stay _ m _ fc (f k) _ rcr).mono ?_; rintro e w1 ⟨rfl, rfl⟩) | (at_builtin; refine wpList_append_fits _ rfl (.tmp 125) (.tmp 130) 32 rfl w3.heap.size 9 i9 1 Try.underlying32 hi9 hz9 w3.heap.size j n ((restL f fc m k).map Value.string) rfl (hown.alloc _) ⟨wr.heap.size, 0, none⟩ 1 1 [.string (f k)] rfl rfl (news_one _ _) (news_cell _) (by omega) ?_; intro w2 hown2 hgr2))
        have hR2 := hR.no hmm hown2 hgr2
        go_roundw
        case rel => exact ⟨k + 1, j + 1, by omega, by omega, by go_num, rfl, hR2⟩
        case measure => simp [intOf]; omega
      · go_wp2_with (go_at_call 18; refine (member_stay _ m _ fc (f k) _ rcr).mono ?_; rintro e w1 ⟨rfl, rfl⟩)
        go_roundw
        case rel => exact ⟨k + 1, j, by omega, by omega, by go_num, rfl, hR.yes hmm⟩
        case measure => simp [intOf]; omega
    · have hkn : k = n := by omega
      subst hkn
      have hBr := below_call hB3 hbr
      have hTr := hT.later hbr
      obtain ⟨hj', hRW⟩ := hR
      have hlen := restL_le f fc m k
      have rrr := hRW.row (by omega)
      rw [← hj'] at rrr
      have HJ : Hid _ := hj'
      clear hj' hRW
      go_wp2_with fail
      refine (zzcounted_any _ k k _ _ f f hi lo ns _ (by omega) hTr rbr whi wlo).mono ?_
      rintro e w5 ⟨rfl, hb5⟩
      generalize hTA : tot (fun i => memb f (f i) k) hi lo k = TA
      generalize hNA : limb (fun i => memb f (f i) k) ns k = NA
      have HTA : Hid _ := hTA
      have HNA : Hid _ := hNA
      clear hTA hNA
      have hb5' := hb5.alloc hb5.size (.cells #[.int .u64 (TA / 18446744073709551616 % 18446744073709551616), .int .u64 (TA % 18446744073709551616), .int .i64 (wrap64 NA)] 24)
      have o16 := own3_new w5 (.int .u64 (TA / 18446744073709551616 % 18446744073709551616)) (.int .u64 (TA % 18446744073709551616)) (.int .i64 (wrap64 NA))
      go_wp2_with fail
      refine (zzcounted_any _ k m _ _ f fc hi lo ns _ (by omega) (hTr.later hb5') (rcr.later hb5') whi wlo).mono ?_
      rintro e w6 ⟨rfl, hb6⟩
      generalize hTI : tot (fun i => memb fc (f i) m) hi lo k = TI
      generalize hNI : limb (fun i => memb fc (f i) m) ns k = NI
      have HTI : Hid _ := hTI
      have HNI : Hid _ := hNI
      clear hTI hNI
      have hb6' := hb6.alloc hb6.size (.cells #[.int .u64 (TI / 18446744073709551616 % 18446744073709551616), .int .u64 (TI % 18446744073709551616), .int .i64 (wrap64 NI)] 24)
      have o17 := own3_new w6 (.int .u64 (TI / 18446744073709551616 % 18446744073709551616)) (.int .u64 (TI % 18446744073709551616)) (.int .i64 (wrap64 NI))
      go_wp2_with fail
      refine (zzcounted_any _ k j _ _ f (fun i => (restL f fc m k).getD i ByteArray.empty) hi lo ns _ (by omega) ((hTr.later hb5').later hb6') ((rrr.later hb5').later hb6') whi wlo).mono ?_
      rintro e w7 ⟨rfl, hb7⟩
      generalize hTO : tot (fun i => memb (fun i => (restL f fc m k).getD i ByteArray.empty) (f i) j) hi lo k = TO
      generalize hNO : limb (fun i => memb (fun i => (restL f fc m k).getD i ByteArray.empty) (f i) j) ns k = NO
      have HTO : Hid _ := hTO
      have HNO : Hid _ := hNO
      clear hTO hNO
      have hb7' := hb7.alloc hb7.size (.cells #[.int .u64 (TO / 18446744073709551616 % 18446744073709551616), .int .u64 (TO % 18446744073709551616), .int .i64 (wrap64 NO)] 24)
      have o18 := own3_new w7 (.int .u64 (TO / 18446744073709551616 % 18446744073709551616)) (.int .u64 (TO % 18446744073709551616)) (.int .i64 (wrap64 NO))
      have hB7 := below_call (below_call (below_call hBr hb5') hb6') hb7'
      have rb7 := ((rbr.later hb5').later hb6').later hb7'
      have p16 := (o16.later hb6').later hb7'
      have p17 := o17.later hb7'
      clear o16 o17 hTr rrr
      go_wp2_with fail
      refine (limbTotal_true _ a1 a2 a3 _ k m _ c1 c2 c3 _ f hi lo ns _ (by omega) rb7 (r1.later hB7) (r2.later hB7) (r3.later hB7) whi wlo).mono ?_
      rintro e w8 ⟨rfl, HW8⟩
      have q16 := p16
      have q17 := p17
      have q18 := o18
      have hB8 := hB7
      rw [← HW8] at q16 q17 q18 hB8
      clear HW8 p16 p17 o18 hB7 rb7 hb5' hb6' hb7' hb5 hb6 hb7 rbr rcr r0 r1 r2 r3 r4 hBr hB3 rb3 rc3
      have eTA : tot (fun _ => true) hi lo k = TI + TO := by
        rw [← HTI.out, ← HTO.out, HJ.out]; exact split_limb
      have eNA : limb (fun _ => true) ns k = NI + NO := by
        rw [← HNI.out, ← HNO.out, HJ.out]; exact split_limb
      have fTA : TA = TI + TO := by rw [← HTA.out, ← eTA]; exact all_congr
      have fNA : NA = NI + NO := by rw [← HNA.out, ← eNA]; exact all_congr
      rw [eTA, eNA]
      clear HTA HNA HTI HNI HTO HNO HJ eTA eNA
      subst fTA fNA
      have j1 := join_hi TI TO
      have j2 := join_lo TI TO
      have j3 := wrap_join NI NO
      have l1 := less_hi TI TO
      have l2 := less_lo TI TO
      have l3 := wrap_less NI NO
      have ⟨⟨x0, x1, x2⟩, _⟩ := q16
      go_wp2_with fail
      refine (parts_any _ _ _ _).mono ?_
      rintro e w9 ⟨rfl, hb9⟩
      replace hB8 := below_call hB8 hb9
      replace q16 := q16.later hb9
      replace q17 := q17.later hb9
      replace q18 := q18.later hb9
      clear x0 x1 x2 hb9
      have ⟨⟨y0, y1, y2⟩, _⟩ := q17
      have ⟨⟨z0, z1, z2⟩, _⟩ := q18
      go_wp2_with fail
      refine (zzplus_any _ _ _ _ _ _ (word_mod _) (word_mod _) (word_mod _) (word_mod _) _).mono ?_
      rintro e w10 ⟨rfl, hb10⟩
      rw [j1, j2, j3]
      go_wp2_with fail
      refine (parts_any _ _ _ _).mono ?_
      rintro e w11 ⟨rfl, hb11⟩
      replace hB8 := below_call (below_call hB8 hb10) hb11
      replace q16 := (q16.later hb10).later hb11
      replace q17 := (q17.later hb10).later hb11
      replace q18 := (q18.later hb10).later hb11
      clear y0 y1 y2 z0 z1 z2 hb10 hb11 j1 j2 j3
      have ⟨⟨x0, x1, x2⟩, _⟩ := q16
      have ⟨⟨y0, y1, y2⟩, _⟩ := q17
      go_wp2_with fail
      refine (zzminus_any _ _ _ _ _ _ (word_mod _) (word_mod _) (word_mod _) (word_mod _) _).mono ?_
      rintro e w12 ⟨rfl, hb12⟩
      rw [l1, l2, l3]
      go_wp2_with fail
      refine (parts_any _ _ _ _).mono ?_
      rintro e w13 ⟨rfl, hb13⟩
      replace hB8 := below_call (below_call hB8 hb12) hb13
      replace q18 := (q18.later hb12).later hb13
      clear x0 x1 x2 y0 y1 y2 hb12 hb13 l1 l2 l3 q16 q17
      have ⟨⟨z0, z1, z2⟩, _⟩ := q18
      go_wp2_with fail
      refine (parts_any _ _ _ _).mono ?_
      rintro e w14 ⟨rfl, hb14⟩
      replace hB8 := below_call hB8 hb14
      clear z0 z1 z2 hb14 q18
      go_wp2
      go_ret
      exact ⟨rfl, hB8⟩

end Go.Proofs.Qxb6612376a
