/-
  THE WALK OF splicedAtStoreB1.
-/
import Derived.Test.Qxb6001653aPlain
import Derived.Deep.LoopGhost
import Derived.Deep.QuietTactic
import Derived.BigQuiet
namespace Go.Proofs.Qxb6001653a
open Go.RowKit

/-- The two conditions that splicedAtStoreB1 tests. -/
def Spliced (h e c : ByteArray) (k : Nat) : Prop :=
  (∀ i (h1 : c.size + i < h.size) (h2 : i < e.size), k ≤ i → h[c.size + i]'h1 = e[i]'h2) ∧ (∀ i (h1 : k + i < h.size) (h2 : i < c.size), h[k + i]'h1 = c[i]'h2)

set_option maxHeartbeats 1000000 in
set_option maxRecDepth 100000 in
theorem spliced_any (h e c : ByteArray) (k : Nat) (w : World) (hh : h.size = e.size + c.size) (hk : k ≤ e.size) (he : e.size ≤ 1048576) (hc : c.size ≤ 1048576) :
    Calls Try.prog 8 #[.string h, .string e, .string c, .int .i64 (k : Int)] w fun en w' => ∃ v : Bool, en = .returned (.bool v) ∧ (Spliced h e c k → v = true) ∧ Below w.heap.size w w' := by
  have HH : Hid (h.size = e.size + c.size) := hh
  have hh1 : h.size ≤ e.size + c.size := by omega
  have hh2 : e.size + c.size ≤ h.size := by omega
  clear hh
  go_enter Try.func8, Try.ntmps8
  go_wp2
  go_loopg [9] (e.size - k) (fun g i wr => ∃ j : Nat, k ≤ j ∧ j ≤ e.size ∧ g + j = e.size ∧ i = .int .i64 j ∧ Below w.heap.size w wr)
  case atStart => exact ⟨k, Nat.le_refl _, hk, by omega, rfl, Below.refl _ _⟩
  case round =>
    obtain ⟨j, hj1, hj2, hg, rfl, hbw⟩ := hrel
    have Hg : Hid (gk + j = e.size) := hg
    clear hg
    by_cases hlt : j < e.size
    · have hx : c.size + j < h.size := by omega
      have i1 : (c.size : Int) + j < h.size := by omega
      have i2 : (j : Int) < e.size := by omega
      have i0 : (0 : Int) ≤ (c.size : Int) + j := by omega
      have tn : ((c.size : Int) + j).toNat = c.size + j := by omega
      have hwr : IntKind.i64.wrap ((c.size : Int) + j) = (c.size : Int) + j := by rw [IntKind.wrap_i64]; omega
      by_cases hq : h[c.size + j] = e[j]
      · have e1 : ((h[c.size + j].toNat : Int) != (e[j].toNat : Int)) = false := by rw [hq]; simp
        clear hq
        go_wp2
        go_quiet (fail)
        go_wp2
        go_roundg (gk - 1)
        case measure => have := Hg.out; omega
        case rel => have := Hg.out; exact ⟨j + 1, by omega, by omega, by omega, by go_num, below_drewN hbw _⟩
      · have e1 : ((h[c.size + j].toNat : Int) != (e[j].toNat : Int)) = true := by
          rw [bne_iff_ne]
          intro hne
          exact hq (UInt8.toNat_inj.1 (by omega))
        have HQ : Hid (¬ h[c.size + j] = e[j]) := hq
        clear hq
        go_wp2
        go_quiet (fail)
        go_wp2
        go_ret
        exact ⟨false, rfl, fun hs => absurd (hs.1 j hx hlt hj1) HQ.out, below_drewN hbw _⟩
    · clear hj1
      go_wp2
      go_loopg [10] c.size (fun g i w2 => ∃ j : Nat, j ≤ c.size ∧ g + j = c.size ∧ i = .int .i64 j ∧ Below w.heap.size w w2)
      case atStart => exact ⟨0, Nat.zero_le _, rfl, rfl, hbw⟩
      case round =>
        obtain ⟨i, hi2, hg2, rfl, hbw2⟩ := hrel
        have Hg2 : Hid (gk + i = c.size) := hg2
        clear hg2
        by_cases hlt2 : i < c.size
        · have hx : k + i < h.size := by omega
          have i1 : (k : Int) + i < h.size := by omega
          have i2 : (i : Int) < c.size := by omega
          have i0 : (0 : Int) ≤ (k : Int) + i := by omega
          have tn : ((k : Int) + i).toNat = k + i := by omega
          have hwr : IntKind.i64.wrap ((k : Int) + i) = (k : Int) + i := by rw [IntKind.wrap_i64]; omega
          by_cases hq : h[k + i] = c[i]
          · have e1 : ((h[k + i].toNat : Int) != (c[i].toNat : Int)) = false := by rw [hq]; simp
            clear hq
            go_wp2
            go_quiet (fail)
            go_wp2
            go_roundg (gk - 1)
            case measure => have := Hg2.out; omega
            case rel => have := Hg2.out; exact ⟨i + 1, by omega, by omega, by go_num, below_drewN hbw2 _⟩
          · have e1 : ((h[k + i].toNat : Int) != (c[i].toNat : Int)) = true := by
              rw [bne_iff_ne]
              intro hne
              exact hq (UInt8.toNat_inj.1 (by omega))
            have HQ : Hid (¬ h[k + i] = c[i]) := hq
            clear hq
            go_wp2
            go_quiet (fail)
            go_wp2
            go_ret
            exact ⟨false, rfl, fun hs => absurd (hs.2 i hx hlt2) HQ.out, below_drewN hbw2 _⟩
        · go_wp2
          go_ret
          exact ⟨true, rfl, fun _ => rfl, hbw2⟩
end Go.Proofs.Qxb6001653a
