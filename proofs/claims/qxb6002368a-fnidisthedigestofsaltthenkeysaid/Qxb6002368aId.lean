/-
  ID UNDER THE RECORDER.
-/
import Derived.Test.Qxb6002368aRec
namespace Go.Proofs.Qxb6002368a
open Go.RowKit

theorem eqf9 (w : World) : (binOp BinOp.eql 23 (.func (.func 9) #[] #[]) .nilFunc).run Try.prog w = .ok (.bool false) w := by kernel_rfl
theorem eqf10 (w : World) : (binOp BinOp.eql 23 (.func (.func 10) #[] #[]) .nilFunc).run Try.prog w = .ok (.bool false) w := by kernel_rfl
theorem eqf0 (w : World) : (binOp BinOp.eql 23 .nilFunc .nilFunc).run Try.prog w = .ok (.bool true) w := by kernel_rfl

theorem new_rec (B : Nat) (w : World) (hB : B ≤ w.heap.size) : RecIs B (w.alloc (.cells #[.slice none 0 0] 39)) w.heap.size [] :=
  ⟨hB, .slice none 0 0, by simp [World.alloc, -World.alloc_eq], World.ownsRow_nil _ _ _ _⟩

set_option maxHeartbeats 1000000 in
set_option maxRecDepth 100000 in
theorem id0 (salt key : ByteArray) (w : World) :
    Calls Try.prog 7 #[.agg #[.nilFunc, .string salt], .string key] w fun e w' => e = .returned (.string key) ∧ Below w.heap.size w w' := by
  have heq := fun w => eqf0 w
  go_enter Try.func7, Try.ntmps7
  go_wp2_with fail
  go_ret
  exact ⟨rfl, (Below.refl _ w).alloc (Nat.le_refl _) _⟩

set_option maxHeartbeats 1000000 in
set_option maxRecDepth 100000 in
theorem idR (salt key : ByteArray) (w : World) (hl : salt.size + key.size ≤ 1048576) :
    Calls Try.prog 7 #[.agg #[.func (.func 9) #[] #[], .string salt], .string key] w fun e w' => e = .returned (.string ⟨(salt.data.toList ++ key.data.toList).toArray⟩) ∧ Below w.heap.size w w' := by
  have heq := fun w => eqf9 w
  have hme := fun a w => method_s37 a w
  have HE : Hid (salt.data.toList.length = salt.size) := rfl
  go_enter Try.func7, Try.ntmps7
  go_wp2_with fail
  refine Calls.mono (new9 _) ?_
  rintro e w1 ⟨rfl, hw1⟩
  have hR1 : RecIs w.heap.size w1 (w.heap.size + 1) [] := by
    have := new_rec w.heap.size (w.alloc (.cells #[.func (.func 9) #[] #[], .string salt] 26)) (by simp)
    rw [← hw1] at this
    simpa using this
  have hB1 : Below w.heap.size w w1 := by rw [hw1]; exact ((Below.refl _ w).alloc (Nat.le_refl _) _).alloc (by simp) _
  have hc1 : w1.cell? ⟨w.heap.size, 1, none⟩ = some (.string salt) := by rw [hw1]; simp
  clear hw1
  go_wp2_with fail
  refine Calls.mono (strR w.heap.size _ [] salt w1 hR1 (by simp; omega)) ?_
  rintro e w2 ⟨⟨x, rfl⟩, hR2, hB2⟩
  go_wp2_with fail
  refine Calls.mono (strR w.heap.size _ _ key w2 hR2 (by simp [HE.out]; omega)) ?_
  rintro e w3 ⟨⟨y, rfl⟩, hR3, hB3⟩
  have B3 : Below w.heap.size w w3 := (hB1.trans hB2).trans hB3
  clear hB1 hB2 hB3 hR1 hR2
  go_wp2_with fail
  refine Calls.mono (sumR w.heap.size _ _ w3 hR3 (by simp [HE.out]; exact hl)) ?_
  rintro e w4 ⟨v, rfl, ho, hB4⟩
  have hs := owns_str ho
  have B4 : Below w.heap.size w w4 := B3.trans (hB4.mono B3.size)
  clear ho hB4 hR3
  go_wp2_with fail
  go_ret
  exact ⟨by simp, B4⟩
end Go.Proofs.Qxb6002368a
