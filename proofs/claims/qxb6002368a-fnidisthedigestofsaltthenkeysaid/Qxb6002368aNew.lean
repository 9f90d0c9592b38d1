/-
  THE SMALL WALKS: the bound, the makers.
-/
import Derived.Test.Qxb6002368aRows
import Derived.WalkKit
import Derived.ProofKit
import Derived.OpenShut
import Derived.ShutString
import Derived.WalkSmall
import Derived.WalkSpells
import Derived.WalkLawsBesides
import Derived.Deep.LoopGhost
import Derived.Deep.OwnRows
import Derived.Deep.QuietTactic
import Derived.BigQuiet
import Derived.Deep.RegionWith
namespace Go.Proofs.Qxb6002368a
open Go.RowKit

set_option maxHeartbeats 1000000 in
set_option maxRecDepth 100000 in
theorem zz8 (a0 : Int) (a1 a2 : ByteArray) (w1 : a1.size ≤ maxLen) (w2 : a2.size ≤ maxLen) (w : World) :
    Calls Try.prog 8 #[.int .u8 a0, .string a1, .string a2] w fun e w' => e = .returned (.bool (decide (a1.size + a2.size ≤ 1048576))) ∧ w = w' := by
  unfold maxLen at w1 w2
  go_enter Try.func8, Try.ntmps8
  go_wp2
  all_goals
    go_ret
    refine ⟨?_, rfl⟩
    simp
    omega

set_option maxHeartbeats 1000000 in
set_option maxRecDepth 100000 in
theorem new9 (w : World) : Calls Try.prog 9 #[] w fun e w' => e = .returned (.iface 37 (.pointer (some ⟨w.heap.size, 0, none⟩))) ∧ w' = w.alloc (.cells #[.slice none 0 0] 39) := by
  go_enter Try.func9, Try.ntmps9
  go_wp2
  go_ret
  exact ⟨rfl, rfl⟩

set_option maxHeartbeats 1000000 in
set_option maxRecDepth 100000 in
theorem new10 (w : World) : Calls Try.prog 10 #[] w fun e w' => e = .returned (.iface 40 (.pointer (some ⟨w.heap.size, 0, none⟩))) ∧ w' = w.alloc (.cells #[.int .u64 14695981039346656037] 43) := by
  go_enter Try.func10, Try.ntmps10
  go_wp2
  go_ret
  exact ⟨rfl, rfl⟩
end Go.Proofs.Qxb6002368a
