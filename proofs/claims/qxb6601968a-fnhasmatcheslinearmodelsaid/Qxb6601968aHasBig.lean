/-
  FnHasMatchesLinearModel (function 7): the walk where the law says nothing.
-/
import Derived.Test.Qxb6601968aHasRows
import Derived.Deep.DeepCutAuto
import Derived.Deep.CutBlock
import Derived.Deep.QuietTactic
import Derived.BigQuiet
namespace Go.Proofs.Qxb6601968a.Has
open Go.RowKit

set_option maxHeartbeats 1000000 in
set_option maxRecDepth 100000 in
theorem law_big (a0 a1 a6 : Option Addr) (l0 c0 l1 c1 l6 c6 : Nat) (nd hp : Bool) (port key : Int) (dp : ByteArray) (K : List Int) (V : Nat → Option Addr × Nat × Nat) (w : World)
    (h0 : l0 ≤ maxLen) (h1 : l1 ≤ maxLen) (h6 : l6 ≤ maxLen) (hd : dp.size ≤ maxLen) (hs : SRow w a1 l1) (ho : ORow w a6 l6 K V) (hbig : 1048576 < l0 ∨ 1048576 < l1 ∨ 1048576 < l6 ∨ 1048576 < dp.size) :
    Calls Try.prog 7 #[.slice a0 l0 c0, .slice a1 l1 c1, .bool nd, .int .u16 port, .bool hp, .string dp, .slice a6 l6 c6, .int .u16 key] w fun e w' => e = .returned (.bool true) ∧ Below w.heap.size w w' := by
  have HB := bytes_any a0 a1 a6 l0 c0 l1 c1 l6 c6 nd hp port key dp K V w h0 h1 h6 hd hs ho
  have hbig' : 1048576 < l0 ∨ (l0 ≤ 1048576 ∧ 1048576 < l1) ∨ (l0 ≤ 1048576 ∧ l1 ≤ 1048576 ∧ 1048576 < l6) ∨ (l0 ≤ 1048576 ∧ l1 ≤ 1048576 ∧ l6 ≤ 1048576 ∧ 1048576 < dp.size) := by omega
  unfold maxLen at h0 h1 h6 hd
  clear hbig hs ho
  rcases hbig' with hb1 | ⟨hb1, hb2⟩ | ⟨hb1, hb2, hb3⟩ | ⟨hb1, hb2, hb3, hb4⟩
  all_goals
    go_enter Try.func7, Try.ntmps7
    go_wp2_with fail
    refine HB.mono ?_
    rintro e w' ⟨⟨bb, rfl, _⟩, rfl⟩
    cases bb
    all_goals
      go_wp2_with fail
      go_ret
      exact ⟨rfl, Below.refl _ _⟩

end Go.Proofs.Qxb6601968a.Has
