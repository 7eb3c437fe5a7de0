/-
  THE WALK OF FnTotalsCountedSplitsByChosenAndRest where the lengths fit: the four cases joined.
-/
import Derived.Test.Qxb6612376aSplitsA
import Derived.Test.Qxb6612376aSplitsB
import Derived.Test.Qxb6612376aSplitsC
import Derived.Test.Qxb6612376aSplitsD
namespace Go.Proofs.Qxb6612376a
open Go.RowKit

theorem splits_main (a0 a1 a2 a3 a4 : Option Addr) (n m c0 c1 c2 c3 c4 : Nat) (f fc : Nat → ByteArray) (hi lo ns : Nat → Int) (w : World) (hn : n ≤ 4096) (hm : m ≤ 4096)
    (r0 : CRow w a0 n (fun i => .string (f i))) (r1 : CRow w a1 n (fun i => .int .u64 (hi i))) (r2 : CRow w a2 n (fun i => .int .u64 (lo i))) (r3 : CRow w a3 n (fun i => .int .i64 (ns i))) (r4 : CRow w a4 m (fun i => .string (fc i)))
    (whi : ∀ i, Word (hi i)) (wlo : ∀ i, Word (lo i)) :
    Calls Try.prog 6 #[.slice a0 n c0, .slice a1 n c1, .slice a2 n c2, .slice a3 n c3, .slice a4 m c4] w fun e w' => e = .returned (.bool true) ∧ Below w.heap.size w w' := by
  cases g0 : a0.isNone <;> cases g4 : a4.isNone
  · exact splits_someSome a0 a1 a2 a3 a4 n m c0 c1 c2 c3 c4 f fc hi lo ns w hn hm r0 r1 r2 r3 r4 whi wlo g0 g4
  · exact splits_someNone a0 a1 a2 a3 a4 n m c0 c1 c2 c3 c4 f fc hi lo ns w hn hm r0 r1 r2 r3 r4 whi wlo g0 g4
  · exact splits_noneSome a0 a1 a2 a3 a4 n m c0 c1 c2 c3 c4 f fc hi lo ns w hn hm r0 r1 r2 r3 r4 whi wlo g0 g4
  · exact splits_noneNone a0 a1 a2 a3 a4 n m c0 c1 c2 c3 c4 f fc hi lo ns w hn hm r0 r1 r2 r3 r4 whi wlo g0 g4
end Go.Proofs.Qxb6612376a
