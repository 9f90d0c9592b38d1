/-
  WHAT A [][]byte IS TO THE WALKS: as it came in; as the law's own copy.
-/
import Derived.Test.Qxb6001793aShelf
import Derived.WalkKit
import Derived.WalkSpells
import Derived.WalkLawsBesides
import Derived.Deep.LoopGhost
import Derived.Deep.OwnRows
import Derived.Deep.QuietTactic
import Derived.BigQuiet
namespace Go.Proofs.Qxb6001793a
open Go.RowKit

/-- ROW r OF WHAT CAME IN: its header (A r, L r, C r) in a cell; its bytes Z r. -/
structure Came (w : World) (b o N : Nat) (A : Nat → Option Addr) (L C : Nat → Nat) (Z : Nat → List UInt8) : Prop where
  cell : ∀ r, r < N → w.cell? ⟨b, o + r, none⟩ = some (.slice (A r) (L r) (C r))
  len : ∀ r, r < N → (Z r).length = L r
  nil : ∀ r, r < N → A r = none → L r = 0 ∧ C r = 0
  big : ∀ r, r < N → L r ≤ 9223372036854775807
  bytes : ∀ r, r < N → 0 < L r → ∃ b' o', A r = some ⟨b', o', none⟩ ∧ ∀ j (hj : j < (Z r).length), w.cell? ⟨b', o' + j, none⟩ = some (.int .u8 ((Z r)[j].toNat : Int))

/-- The call hands back some bool, and nothing turns. -/
def SomeBool (w : World) (e : Ending) (w' : World) : Prop := ∃ v : Bool, e = .returned (.bool v) ∧ w = w'

/-- How many bytes the first k rows hold. -/
def total (L : Nat → Nat) : Nat → Nat
  | 0 => 0
  | k + 1 => total L k + L k

theorem total_mono (L : Nat → Nat) (k n : Nat) (h : k ≤ n) : total L k ≤ total L n := by
  induction n with
  | zero => obtain rfl : k = 0 := by omega
            exact Nat.le_refl _
  | succ n ih =>
    by_cases hk : k = n + 1
    · subst hk; exact Nat.le_refl _
    · have := ih (by omega); simp only [total]; omega
theorem total_one (L : Nat → Nat) (k n : Nat) (h : k < n) : L k ≤ total L n := by
  have := total_mono L (k + 1) n h
  simp only [total] at this; omega

/-- zzItemsBytes: the bound's breach, or the count. -/
def Counted (w : World) (n : Int) (e : Ending) (w' : World) : Prop := ∃ v : Int, e = .returned (.int .i64 v) ∧ (v ≤ 1048576 → v = n) ∧ 0 ≤ v ∧ v ≤ 1048577 ∧ w = w'

set_option maxHeartbeats 1000000 in
set_option maxRecDepth 100000 in
theorem zz11 (b o N cap : Nat) (A : Nat → Option Addr) (L C : Nat → Nat) (Z : Nat → List UInt8) (w : World) (hN : N ≤ 9223372036854775807) (h : Came w b o N A L C Z) :
    Calls Try.prog 11 #[.slice (some ⟨b, o, none⟩) N cap] w (SomeBool w) := by
  by_cases hb : (N : Int) ≤ 1048576
  · go_enter Try.func11, Try.ntmps11
    go_wp2
    go_loopg [3, 4] N (fun g z i wr => ∃ (k : Nat) (n : Int), g + k = N ∧ k ≤ N ∧ i = .int .i64 k ∧ z = .int .i64 n ∧ 0 ≤ n ∧ n ≤ 1048576 ∧ w = wr)
    case atStart => exact ⟨0, N, rfl, by omega, rfl, rfl, by omega, hb, rfl⟩
    case round =>
      obtain ⟨k, n, hg, hk, rfl, rfl, hn0, hn1, rfl⟩ := hrel
      have Hg : Hid (gk + k = N) := hg
      clear hg
      by_cases hlt : k < N
      · have hc := h.cell k hlt
        have hbig := h.big k hlt
        by_cases h1 : (L k : Int) ≤ 1048576
        · by_cases h2 : n + L k ≤ 1048576
          · go_wp2
            go_roundg (gk - 1)
            case measure => have := Hg.out; omega
            case rel => have := Hg.out; exact ⟨k + 1, n + L k, by omega, by omega, by go_num, rfl, by omega, h2, rfl⟩
          · go_wp2
            go_ret
            exact ⟨false, rfl, rfl⟩
        · go_wp2
          go_ret
          exact ⟨false, rfl, rfl⟩
      · go_wp2
        go_ret
        exact ⟨true, rfl, rfl⟩
  · go_enter Try.func11, Try.ntmps11
    go_wp2
    go_ret
    exact ⟨false, rfl, rfl⟩

set_option maxHeartbeats 1000000 in
set_option maxRecDepth 100000 in
theorem zz11_none (a : Option Addr) (cap : Nat) (w : World) : Calls Try.prog 11 #[.slice a 0 cap] w (SomeBool w) := by
  go_enter Try.func11, Try.ntmps11
  go_wp2
  refine wp_loop_rounds 1 ?_
  rw [rounds_succ]
  go_wp2
  go_ret
  exact ⟨true, rfl, rfl⟩

set_option maxHeartbeats 1000000 in
set_option maxRecDepth 100000 in
theorem zz18 (b o N cap : Nat) (A : Nat → Option Addr) (L C : Nat → Nat) (Z : Nat → List UInt8) (w : World) (hN : N ≤ 9223372036854775807) (h : Came w b o N A L C Z) :
    Calls Try.prog 18 #[.slice (some ⟨b, o, none⟩) N cap] w (SomeBool w) := by
  by_cases hb : (N : Int) ≤ 1048576
  · go_enter Try.func18, Try.ntmps18
    go_wp2
    go_loopg [3, 4] N (fun g z i wr => ∃ (k : Nat) (n : Int), g + k = N ∧ k ≤ N ∧ i = .int .i64 k ∧ z = .int .i64 n ∧ 0 ≤ n ∧ n ≤ 1048576 ∧ w = wr)
    case atStart => exact ⟨0, N, rfl, by omega, rfl, rfl, by omega, hb, rfl⟩
    case round =>
      obtain ⟨k, n, hg, hk, rfl, rfl, hn0, hn1, rfl⟩ := hrel
      have Hg : Hid (gk + k = N) := hg
      clear hg
      by_cases hlt : k < N
      · have hc := h.cell k hlt
        have hbig := h.big k hlt
        by_cases h1 : (L k : Int) ≤ 1048576
        · by_cases h2 : n + L k ≤ 1048576
          · go_wp2
            go_roundg (gk - 1)
            case measure => have := Hg.out; omega
            case rel => have := Hg.out; exact ⟨k + 1, n + L k, by omega, by omega, by go_num, rfl, by omega, h2, rfl⟩
          · go_wp2
            go_ret
            exact ⟨false, rfl, rfl⟩
        · go_wp2
          go_ret
          exact ⟨false, rfl, rfl⟩
      · go_wp2
        go_ret
        exact ⟨true, rfl, rfl⟩
  · go_enter Try.func18, Try.ntmps18
    go_wp2
    go_ret
    exact ⟨false, rfl, rfl⟩

set_option maxHeartbeats 1000000 in
set_option maxRecDepth 100000 in
theorem zz18_none (a : Option Addr) (cap : Nat) (w : World) : Calls Try.prog 18 #[.slice a 0 cap] w (SomeBool w) := by
  go_enter Try.func18, Try.ntmps18
  go_wp2
  refine wp_loop_rounds 1 ?_
  rw [rounds_succ]
  go_wp2
  go_ret
  exact ⟨true, rfl, rfl⟩

set_option maxHeartbeats 1000000 in
set_option maxRecDepth 100000 in
theorem items12 (b o N cap : Nat) (A : Nat → Option Addr) (L C : Nat → Nat) (Z : Nat → List UInt8) (w : World) (hN : N ≤ 9223372036854775807) (h : Came w b o N A L C Z) :
    Calls Try.prog 12 #[.slice (some ⟨b, o, none⟩) N cap] w (Counted w (24 * N + total L N)) := by
  by_cases hb : (N : Int) ≤ 43690
  · go_enter Try.func12, Try.ntmps12
    go_wp2
    go_loopg [3, 4] N (fun g z i wr => ∃ k : Nat, g + k = N ∧ k ≤ N ∧ i = .int .i64 k ∧ z = .int .i64 ((N : Int) * 24 + total L k) ∧ ((N : Int) * 24 + total L k ≤ 1048576) ∧ w = wr)
    case atStart => exact ⟨0, rfl, by omega, rfl, by simp [total], by simp [total]; omega, rfl⟩
    case round =>
      obtain ⟨k, hg, hk, rfl, rfl, hn1, rfl⟩ := hrel
      have Hg : Hid (gk + k = N) := hg
      have ht : total L (k + 1) = total L k + L k := rfl
      have HT : Hid (total L (k + 1) = total L k + L k) := ht
      have hm := total_mono L k N hk
      have hm1 : k < N → total L (k + 1) ≤ total L N := fun hh => total_mono L (k + 1) N hh
      have HM : Hid (k < N → total L (k + 1) ≤ total L N) := hm1
      have HMe : Hid (k = N → total L k = total L N) := fun hh => by rw [hh]
      clear hg ht hm1
      generalize total L k = t at *
      generalize total L N = tN at *
      by_cases hlt : k < N
      · have hc := h.cell k hlt
        have hbig := h.big k hlt
        by_cases h1 : (L k : Int) ≤ 1048576 - ((N : Int) * 24 + t)
        · go_wp2
          go_roundg (gk - 1)
          case measure => have := Hg.out; omega
          case rel =>
            have := Hg.out
            refine ⟨k + 1, by omega, by omega, by go_num, ?_, ?_, rfl⟩
            · rw [HT.out]; go_num
            · rw [HT.out]; omega
        · go_wp2
          go_ret
          exact ⟨1048577, rfl, by omega, by omega, by omega, rfl⟩
      · go_wp2
        go_ret
        exact ⟨(N : Int) * 24 + t, rfl, fun _ => by have := HMe.out (by omega); omega, by omega, by omega, rfl⟩
  · go_enter Try.func12, Try.ntmps12
    go_wp2
    go_ret
    exact ⟨1048577, rfl, by omega, by omega, by omega, rfl⟩

set_option maxHeartbeats 1000000 in
set_option maxRecDepth 100000 in
theorem items12_none (a : Option Addr) (cap : Nat) (w : World) : Calls Try.prog 12 #[.slice a 0 cap] w (Counted w 0) := by
  go_enter Try.func12, Try.ntmps12
  go_wp2
  refine wp_loop_rounds 1 ?_
  rw [rounds_succ]
  go_wp2
  go_ret
  exact ⟨0, rfl, fun _ => rfl, by omega, by omega, rfl⟩

end Go.Proofs.Qxb6001793a
