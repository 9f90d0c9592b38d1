/-
  The two fixed parts of the text that heldWithin writes; the walk of heldWithin and of its export.
-/
import Derived.Test.Qxb6001653aProg
import Derived.WalkKit
import Derived.WalkSpells
import Derived.WalkLawsBesides
namespace Go.Proofs.Qxb6001653a
open Go.RowKit

def preL : List UInt8 := [40, 10, 9, 83, 69, 76, 69, 67, 84, 32, 99, 111, 97, 108, 101, 115, 99, 101, 40, 115, 117, 109, 40, 112, 46, 97, 109, 111, 117, 110, 116, 41,
  44, 32, 48, 41, 32, 70, 82, 79, 77, 32, 104, 111, 108, 100, 95, 112, 97, 114, 116, 115, 32, 112, 10, 9, 87, 72, 69, 82, 69, 32, 112, 46,
  115, 117, 98, 115, 99, 114, 105, 112, 116, 105, 111, 110, 95, 105, 100, 32, 61, 32, 119, 46, 115, 117, 98, 115, 99, 114, 105, 112, 116, 105, 111, 110,
  95, 105, 100, 32, 65, 78, 68, 32, 112, 46, 104, 111, 108, 100, 95, 105, 100, 32, 61, 32, 65, 78, 89, 40, 65, 82, 82, 65, 89, 40, 10, 9,
  9, 83, 69, 76, 69, 67, 84, 32, 104, 46, 105, 100, 32, 70, 82, 79, 77, 32, 117, 115, 101, 114, 115, 32, 117, 32, 74, 79, 73, 78, 32, 104,
  111, 108, 100, 115, 32, 104, 32, 79, 78, 32, 104, 46, 117, 115, 101, 114, 95, 105, 100, 32, 61, 32, 117, 46, 105, 100, 10, 9, 9, 87, 72, 69,
  82, 69, 32, 117, 46, 105, 100, 32, 61, 32, 40, 83, 69, 76, 69, 67, 84, 32, 115, 46, 117, 115, 101, 114, 95, 105, 100, 32, 70, 82, 79, 77,
  32, 115, 117, 98, 115, 99, 114, 105, 112, 116, 105, 111, 110, 115, 32, 115, 32, 87, 72, 69, 82, 69, 32, 115, 46, 105, 100, 32, 61, 32, 119, 46,
  115, 117, 98, 115, 99, 114, 105, 112, 116, 105, 111, 110, 95, 105, 100, 41, 32, 65, 78, 68, 32]
def postL : List UInt8 := [10, 9, 9, 9, 65, 78, 68, 32, 104, 46, 99, 104, 97, 114, 103, 101, 100, 95, 97, 116, 32, 62, 61, 32, 119, 46, 115, 116, 97, 114, 116, 95,
  97, 116, 32, 65, 78, 68, 32, 104, 46, 99, 104, 97, 114, 103, 101, 100, 95, 97, 116, 32, 60, 32, 119, 46, 101, 110, 100, 95, 97, 116, 41, 41,
  41]

/-- What heldWithin writes. -/
def held (c : ByteArray) : ByteArray := ⟨(preL ++ c.data.toList ++ postL).toArray⟩

/-- The same, as two concatenations of strings. -/
theorem held_cat (c : ByteArray) : (⟨preL.toArray⟩ : ByteArray) ++ c ++ ⟨postL.toArray⟩ = held c := by
  have e : ((⟨preL.toArray⟩ : ByteArray) ++ c ++ ⟨postL.toArray⟩).data = (held c).data := by
    simp only [ByteArray.data_append, held]
    apply Array.toList_inj.1
    simp
  cases h : (⟨preL.toArray⟩ : ByteArray) ++ c ++ ⟨postL.toArray⟩ with
  | mk d => rw [h] at e; cases h2 : held c with | mk d2 => rw [h2] at e; cases e; rfl

theorem ret_str {a b : ByteArray} (h : a = b) : Ending.returned (.string a) = .returned (.string b) := by rw [h]

set_option maxHeartbeats 1000000 in
set_option maxRecDepth 100000 in
theorem held9 (c : ByteArray) (w : World) (hc : c.size ≤ 1048576) : Calls Try.prog 9 #[.string c] w fun e w' => e = .returned (.string (held c)) ∧ w = w' := by
  have h := held_cat c
  have H : Hid ((⟨preL.toArray⟩ : ByteArray) ++ c ++ ⟨postL.toArray⟩ = held c) := h
  clear h
  go_enter Try.func9, Try.ntmps9
  go_wp2
  go_ret
  exact ⟨ret_str H.out, rfl⟩

set_option maxHeartbeats 1000000 in
set_option maxRecDepth 100000 in
theorem held6 (c : ByteArray) (w : World) (hc : c.size ≤ 1048576) : Calls Try.prog 6 #[.string c] w fun e w' => e = .returned (.string (held c)) ∧ w = w' := by
  go_enter Try.func6, Try.ntmps6
  go_wp2_with (go_at_call 9; refine (held9 c _ hc).mono ?_; rintro e w' ⟨rfl, rfl⟩)
  go_ret
  exact ⟨rfl, rfl⟩
end Go.Proofs.Qxb6001653a
