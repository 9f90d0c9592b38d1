/-
  zzBytes_FnByteaArrayConcatenates.
-/
import Derived.Test.Qxb6001793aBytea
namespace Go.Proofs.Qxb6001793a
open Go.RowKit

/-- The headers of what came in. -/
def Hdrs (w : World) (a : Option Addr) (N : Nat) : Prop := ∀ k, k < N → ∃ b o x l c, a = some ⟨b, o, none⟩ ∧ w.cell? ⟨b, o + k, none⟩ = some (.slice x l c) ∧ l ≤ 9223372036854775807

theorem ArgIs.hdrs {w : World} {v : Value} {I : List (List UInt8)} (h : ArgIs w v I) : ∃ a cap, v = .slice a I.length cap ∧ I.length ≤ 9223372036854775807 ∧ Hdrs w a I.length := by
  rcases h with ⟨rfl, a, cap, rfl⟩ | ⟨b, o, N, cap, A, L, C, Z, rfl, _, hN, hC, rfl⟩
  · exact ⟨a, cap, rfl, by simp, fun k hk => absurd hk (by simp)⟩
  · refine ⟨some ⟨b, o, none⟩, cap, by simp, by simpa using hN, fun k hk => ?_⟩
    have hk' : k < N := by simpa using hk
    exact ⟨b, o, _, _, _, rfl, hC.cell k hk', hC.big k hk'⟩

set_option maxHeartbeats 1000000 in
set_option maxRecDepth 100000 in
theorem zz17 (a0 a1 : Option Addr) (N0 N1 cap0 cap1 : Nat) (w : World) (hN0 : N0 ≤ 9223372036854775807) (hN1 : N1 ≤ 9223372036854775807) (h0 : Hdrs w a0 N0) (h1 : Hdrs w a1 N1) :
    Calls Try.prog 17 #[.slice a0 N0 cap0, .slice a1 N1 cap1] w (SomeBool w) := by
  by_cases hb : (N0 : Int) ≤ 1048576
  · go_enter Try.func17, Try.ntmps17
    go_wp2
    go_loopg [5, 6] N0 (fun g z i wr => ∃ (k : Nat) (n : Int), g + k = N0 ∧ k ≤ N0 ∧ i = .int .i64 k ∧ z = .int .i64 n ∧ 0 ≤ n ∧ n ≤ 1048576 ∧ w = wr)
    case atStart => exact ⟨0, N0, rfl, by omega, rfl, rfl, by omega, hb, rfl⟩
    case round =>
      obtain ⟨k, n, hg, hk, rfl, rfl, hn0, hn1, rfl⟩ := hrel
      have Hg : Hid (gk + k = N0) := hg
      clear hg
      by_cases hlt : k < N0
      · obtain ⟨b, o, x, l, c, ha, hc, hbig⟩ := h0 k hlt
        subst ha
        clear h0 h1
        by_cases q1 : (l : Int) ≤ 1048576
        · by_cases q2 : n + l ≤ 1048576
          · go_wp2
            go_roundg (gk - 1)
            case measure => have := Hg.out; omega
            case rel => have := Hg.out; exact ⟨k + 1, n + l, by omega, by omega, by go_num, rfl, by omega, q2, rfl⟩
          · go_wp2
            go_ret
            exact ⟨false, rfl, rfl⟩
        · go_wp2
          go_ret
          exact ⟨false, rfl, rfl⟩
      · by_cases hb1 : (N1 : Int) ≤ 1048576
        · by_cases hb2 : n + (N1 : Int) ≤ 1048576
          · go_wp2
            go_loopg [5, 7] N1 (fun g z i wr => ∃ (k : Nat) (n : Int), g + k = N1 ∧ k ≤ N1 ∧ i = .int .i64 k ∧ z = .int .i64 n ∧ 0 ≤ n ∧ n ≤ 1048576 ∧ w = wr)
            case atStart => exact ⟨0, n + N1, rfl, by omega, rfl, rfl, by omega, hb2, rfl⟩
            case round =>
              obtain ⟨k2, n2, hg2, hk2, rfl, rfl, hn20, hn21, rfl⟩ := hrel
              have Hg2 : Hid (gk + k2 = N1) := hg2
              clear hg2
              by_cases hlt2 : k2 < N1
              · obtain ⟨b, o, x, l, c, ha, hc, hbig⟩ := h1 k2 hlt2
                subst ha
                clear h0 h1
                by_cases q1 : (l : Int) ≤ 1048576
                · by_cases q2 : n2 + l ≤ 1048576
                  · go_wp2
                    go_roundg (gk - 1)
                    case measure => have := Hg2.out; omega
                    case rel => have := Hg2.out; exact ⟨k2 + 1, n2 + l, by omega, by omega, by go_num, rfl, by omega, q2, rfl⟩
                  · go_wp2
                    go_ret
                    exact ⟨false, rfl, rfl⟩
                · go_wp2
                  go_ret
                  exact ⟨false, rfl, rfl⟩
              · go_wp2
                go_ret
                exact ⟨true, rfl, rfl⟩
          · go_wp2
            go_ret
            exact ⟨false, rfl, rfl⟩
        · go_wp2
          go_ret
          exact ⟨false, rfl, rfl⟩
  · go_enter Try.func17, Try.ntmps17
    go_wp2
    go_ret
    exact ⟨false, rfl, rfl⟩

theorem zz17_arg {w : World} {v0 v1 : Value} {I J : List (List UInt8)} (h0 : ArgIs w v0 I) (h1 : ArgIs w v1 J) : Calls Try.prog 17 #[v0, v1] w (SomeBool w) := by
  obtain ⟨a0, c0, rfl, n0, d0⟩ := h0.hdrs
  obtain ⟨a1, c1, rfl, n1, d1⟩ := h1.hdrs
  exact zz17 a0 a1 _ _ c0 c1 w n0 n1 d0 d1
end Go.Proofs.Qxb6001793a
