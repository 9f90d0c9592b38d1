/-
  ID UNDER FNV, AND THE LAW.
-/
import Derived.Test.Qxb6002368aId
import Derived.Test.Qxb6002368aFnvWalk
import Derived.Laws.EntriesVeiled
namespace Go.Proofs.Qxb6002368a
open Go.RowKit

theorem new_fnv (B : Nat) (w : World) (hB : B ≤ w.heap.size) : FnvIs B (w.alloc (.cells #[.int .u64 14695981039346656037] 43)) w.heap.size 14695981039346656037 :=
  ⟨hB, by simp [World.alloc, -World.alloc_eq]⟩

set_option maxHeartbeats 1000000 in
set_option maxRecDepth 100000 in
theorem idF (salt key : ByteArray) (w : World) (hl : salt.size + key.size ≤ 1048576) :
    Calls Try.prog 7 #[.agg #[.func (.func 10) #[] #[], .string salt], .string key] w fun e w' => e = .returned (.string ⟨(dig (fed 14695981039346656037 (salt.data.toList ++ key.data.toList))).toArray⟩) ∧ Below w.heap.size w w' := by
  have heq := fun w => eqf10 w
  have hme := fun a w => method_s40 a w
  go_enter Try.func7, Try.ntmps7
  go_wp2_with fail
  refine Calls.mono (new10 _) ?_
  rintro e w1 ⟨rfl, hw1⟩
  have hR1 : FnvIs w.heap.size w1 (w.heap.size + 1) 14695981039346656037 := by
    have := new_fnv w.heap.size (w.alloc (.cells #[.func (.func 10) #[] #[], .string salt] 26)) (by simp)
    rw [← hw1] at this
    simpa using this
  have hB1 : Below w.heap.size w w1 := by rw [hw1]; exact ((Below.refl _ w).alloc (Nat.le_refl _) _).alloc (by simp) _
  have hc1 : w1.cell? ⟨w.heap.size, 1, none⟩ = some (.string salt) := by rw [hw1]; simp
  clear hw1
  go_wp2_with fail
  refine Calls.mono (strF w.heap.size _ _ salt w1 hR1 (by decide) (by decide) (by omega)) ?_
  rintro e w2 ⟨⟨x, rfl⟩, hR2, hB2⟩
  have hbn := fed_bnd salt.data.toList 14695981039346656037 (by decide) (by decide)
  have HA : Hid (fed 14695981039346656037 (salt.data.toList ++ key.data.toList) = fed (fed 14695981039346656037 salt.data.toList) key.data.toList) := fed_append _ _ _
  go_wp2_with fail
  refine Calls.mono (strF w.heap.size _ _ key w2 hR2 hbn.1 hbn.2 (by omega)) ?_
  rintro e w3 ⟨⟨y, rfl⟩, hR3, hB3⟩
  have B3 : Below w.heap.size w w3 := (hB1.trans hB2).trans hB3
  have hbn3 := fed_bnd key.data.toList (fed 14695981039346656037 salt.data.toList) hbn.1 hbn.2
  clear hB1 hB2 hB3 hR1 hR2
  go_wp2_with fail
  refine Calls.mono (sumF w.heap.size _ _ w3 hR3 hbn3.1 hbn3.2) ?_
  rintro e w4 ⟨v, rfl, ho, hB4⟩
  have hs := owns_str ho
  have B4 : Below w.heap.size w w4 := B3.trans (hB4.mono B3.size)
  clear ho hB4 hR3
  go_wp2_with fail
  go_ret
  exact ⟨by rw [HA.out]; rfl, B4⟩

theorem ret_true {b : Bool} (h : b = true) : Ending.returned (.bool b) = .returned (.bool true) := by rw [h]
theorem join_list (a b : ByteArray) : (a ++ b).data.toList = a.data.toList ++ b.data.toList := by simp

set_option maxHeartbeats 2000000 in
set_option maxRecDepth 100000 in
theorem walk (a0 : Int) (a1 : ByteArray) (a2 : ByteArray) (w0 : (Lit.int .u8 a0).wf = true) (w1 : a1.size ≤ maxLen) (w2 : a2.size ≤ maxLen) (w : World) :
    Calls Try.prog 4 #[.int .u8 a0, .string a1, .string a2] w fun e w' => e = .returned (.bool true) ∧ Below w.heap.size w w' := by
  have Z : Hid _ := zz8 a0 a1 a2 w1 w2 w
  have hr : 0 ≤ a0 ∧ a0 ≤ 255 := by
    have e0 : IntKind.u8.min = 0 := rfl
    have e1 : IntKind.u8.max = 255 := rfl
    simp [Lit.wf] at w0
    omega
  unfold maxLen at w1 w2
  clear w0
  by_cases hl : a1.size + a2.size ≤ 1048576
  · have hd : decide (a1.size + a2.size ≤ 1048576) = true := by simp [hl]
    rw [Hid, hd] at Z
    have Z2 : Hid _ := Z
    clear Z hd
    rcases (by omega : a0 % 3 = 0 ∨ a0 % 3 = 1 ∨ a0 % 3 = 2) with h | h | h
    · go_enter Try.func4, Try.ntmps4
      go_wp2_with fail
      refine Calls.mono Z2.out ?_
      rintro e w' ⟨rfl, rfl⟩
      go_wp2_with fail
      refine Calls.mono (id0 a1 a2 _) ?_
      rintro e w5 ⟨rfl, hb⟩
      have hb5 : Below w.heap.size w w5 := ((Below.refl _ w).alloc (Nat.le_refl _) _).trans (hb.mono (by simp))
      clear hb
      go_wp2_with fail
      go_ret
      exact ⟨ret_true (by simp), hb5⟩
    · go_enter Try.func4, Try.ntmps4
      go_wp2_with fail
      refine Calls.mono Z2.out ?_
      rintro e w' ⟨rfl, rfl⟩
      go_wp2_with fail
      refine Calls.mono (idR a1 a2 _ hl) ?_
      rintro e w5 ⟨rfl, hb⟩
      have hb5 : Below w.heap.size w w5 := ((Below.refl _ w).alloc (Nat.le_refl _) _).trans (hb.mono (by simp))
      clear hb
      go_wp2_with fail
      go_ret
      refine ⟨ret_true ?_, hb5⟩
      simp [ByteArray.toList_eq]
    · go_enter Try.func4, Try.ntmps4
      go_wp2_with fail
      refine Calls.mono Z2.out ?_
      rintro e w' ⟨rfl, rfl⟩
      go_wp2_with fail
      refine Calls.mono (idF a1 a2 _ hl) ?_
      rintro e w5 ⟨rfl, hb⟩
      have hb5 : Below w.heap.size w w5 := ((Below.refl _ w).alloc (Nat.le_refl _) _).trans (hb.mono (by simp))
      clear hb
      have hz : (⟨(dig (fed 14695981039346656037 (a1.data.toList ++ a2.data.toList))).toArray⟩ : ByteArray).size = 8 := by
        show (dig _).toArray.size = 8
        rw [List.size_toArray, dig_len]
      have hsz : (a1 ++ a2).size ≤ 1048576 := by rw [ByteArray.size_append]; exact hl
      have HM : Hid (∀ wx : World, Calls Try.prog 11 #[.string (a1 ++ a2)] wx fun e w' => e = .returned (.string ⟨(dig (fed 14695981039346656037 (a1.data.toList ++ a2.data.toList))).toArray⟩) ∧ Below wx.heap.size wx w') := fun wx => by
        have := model (a1 ++ a2) wx hsz
        rw [join_list] at this
        exact this
      generalize (⟨(dig (fed 14695981039346656037 (a1.data.toList ++ a2.data.toList))).toArray⟩ : ByteArray) = S at *
      go_wp2_with fail
      refine Calls.mono (HM.out _) ?_
      rintro e w6 ⟨rfl, hb6⟩
      have hb7 : Below w.heap.size w w6 := hb5.trans (hb6.mono hb5.size)
      clear hb6
      go_wp2_with fail
      go_ret
      exact ⟨ret_true (by simp), hb7⟩
  · have hd : decide (a1.size + a2.size ≤ 1048576) = false := by simp; omega
    rw [Hid, hd] at Z
    have Z2 : Hid _ := Z
    clear Z hd
    go_enter Try.func4, Try.ntmps4
    go_wp2_with fail
    refine Calls.mono Z2.out ?_
    rintro e w' ⟨rfl, rfl⟩
    go_wp2_with fail
    go_ret
    exact ⟨rfl, Below.refl _ _⟩
end Go.Proofs.Qxb6002368a
