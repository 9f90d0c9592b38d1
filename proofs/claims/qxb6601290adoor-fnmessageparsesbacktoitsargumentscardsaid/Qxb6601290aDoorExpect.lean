/-
  THE WALK OF expectAtB1.
-/
import Derived.Test.Qxb6601290aDoorProg
import Derived.Test.Qxb6601290aDoorPlain
import Derived.WalkKit
import Derived.WalkSpells
import Derived.WalkLawsBesides
import Derived.Deep.LoopGhost
import Derived.Deep.QuietTactic
import Derived.BigQuiet
namespace Go.Proofs.Qxb6601290aDoor
open Go.RowKit

/-- Byte j of a string that is a list in three parts. -/
theorem mid_at (m : ByteArray) (a l c : List UInt8) (hm : m.data.toList = a ++ (l ++ c)) (j : Nat) (hj : j < l.length) : ∃ h : a.length + j < m.size, m[a.length + j]'h = l[j] := by
  have hl : m.data.toList.length = m.size := rfl
  have h : a.length + j < m.size := by rw [← hl, hm]; simp; omega
  refine ⟨h, ?_⟩
  have e : m[a.length + j]'h = (m.data.toList[a.length + j]'(by omega)) := rfl
  rw [e]
  simp only [hm]
  rw [List.getElem_append_right (by omega)]
  simp [List.getElem_append_left hj]

theorem size_of_parts (m : ByteArray) (a l c : List UInt8) (hm : m.data.toList = a ++ (l ++ c)) : m.size = a.length + l.length + c.length := by
  have hl : m.data.toList.length = m.size := rfl
  rw [← hl, hm]; simp; omega

set_option maxHeartbeats 1000000 in
set_option maxRecDepth 100000 in
theorem expect_yes0 (m t : ByteArray) (p : Nat) (w : World) (hms : m.size ≤ 16777216) (hfit : p + t.size ≤ m.size)
    (heq : ∀ k (h1 : p + k < m.size) (h2 : k < t.size), m[p + k]'h1 = t[k]'h2) :
    Calls Tryd.prog 14 #[.string m, .int .i64 (p : Int), .string t] w fun e w' => e = .returned (.tuple #[.int .i64 ((p : Int) + t.size), .bool true]) ∧ Below w.heap.size w w' := by
  have HE : Hid (∀ k (h1 : p + k < m.size) (h2 : k < t.size), m[p + k]'h1 = t[k]'h2) := heq
  clear heq
  go_enter Tryd.func14, Tryd.ntmps14
  go_wp2
  go_loopg [8] t.size (fun g i wr => ∃ k : Nat, k ≤ t.size ∧ g + k = t.size ∧ i = .int .i64 k ∧ Below w.heap.size w wr)
  case atStart => exact ⟨0, Nat.zero_le _, rfl, rfl, Below.refl _ _⟩
  case round =>
    obtain ⟨k, hk, hg, rfl, hbw⟩ := hrel
    have Hg : Hid (gk + k = t.size) := hg
    clear hg
    by_cases hlt : k < t.size
    · have hpk : p + k < m.size := by omega
      have e1 : ((m[p + k].toNat : Int) != (t[k].toNat : Int)) = false := by rw [HE.out k hpk hlt]; simp
      have i1 : (p : Int) + k < m.size := by omega
      have i2 : (k : Int) < t.size := by omega
      have hwr : IntKind.i64.wrap ((p : Int) + k) = (p : Int) + k := by rw [IntKind.wrap_i64]; omega
      have i0 : (0 : Int) ≤ (p : Int) + k := by omega
      have tn : ((p : Int) + k).toNat = p + k := by omega
      go_wp2
      go_quiet (fail)
      go_wp2
      go_roundg (gk - 1)
      case measure => have := Hg.out; omega
      case rel => have := Hg.out; exact ⟨k + 1, by omega, by omega, by go_num, below_drewN hbw _⟩
    · go_wp2
      go_ret2
      exact ⟨rfl, hbw⟩

/-- THE LITERAL IS THERE: the place behind it. -/
theorem expect_yes (m t : ByteArray) (i : Int) (a l c : List UInt8) (w : World) (hm : m.data.toList = a ++ (l ++ c)) (ht : t.data.toList = l) (hi : i = a.length) (hms : m.size ≤ 16777216) :
    Calls Tryd.prog 14 #[.string m, .int .i64 i, .string t] w fun e w' => ∃ j : Int, e = .returned (.tuple #[.int .i64 j, .bool true]) ∧ j = (a ++ l).length ∧ Below w.heap.size w w' := by
  subst hi
  have hsz := size_of_parts m a l c hm
  have hts : t.size = l.length := by rw [← ht]; rfl
  refine (expect_yes0 m t a.length w hms (by omega) ?_).mono ?_
  · intro k h1 h2
    obtain ⟨h, e⟩ := mid_at m a l c hm k (by omega)
    rw [e]
    have e2 : t[k]'h2 = (t.data.toList[k]'(by rw [ht]; omega)) := rfl
    rw [e2]
    simp only [ht]
  · rintro e w' ⟨rfl, hb⟩
    exact ⟨_, rfl, by rw [List.length_append, hts]; omega, hb⟩

set_option maxHeartbeats 1000000 in
set_option maxRecDepth 100000 in
/-- THE LITERAL IS NOT THERE: its first byte is another, or the string is too short. -/
theorem expect_no (m t : ByteArray) (p : Nat) (w : World) (hms : m.size ≤ 16777216) (hp : p < m.size) (ht : 0 < t.size) (hts : t.size ≤ 64) (hne : m[p].toNat ≠ t[0].toNat) :
    Calls Tryd.prog 14 #[.string m, .int .i64 (p : Int), .string t] w fun e w' => e = .returned (.tuple #[.int .i64 0, .bool false]) ∧ Below w.heap.size w w' := by
  by_cases hsh : (m.size : Int) - p < t.size
  · go_enter Tryd.func14, Tryd.ntmps14
    go_wp2
    go_ret2
    exact ⟨rfl, Below.refl _ _⟩
  · have e1 : ((m[p].toNat : Int) != (t[0].toNat : Int)) = true := by rw [bne_iff_ne]; omega
    have i1 : (p : Int) < m.size := by omega
    have i2 : (0 : Int) < t.size := by omega
    have i0 : (0 : Int) ≤ (p : Int) := by omega
    have hwr : IntKind.i64.wrap (p : Int) = (p : Int) := by rw [IntKind.wrap_i64]; omega
    go_enter Tryd.func14, Tryd.ntmps14
    go_wp2
    refine wp_loop_rounds 1 ?_
    rw [rounds_succ]
    go_wp2
    go_quiet (fail)
    go_wp2
    go_ret2
    exact ⟨rfl, below_drewN (Below.refl _ _) _⟩
end Go.Proofs.Qxb6601290aDoor
