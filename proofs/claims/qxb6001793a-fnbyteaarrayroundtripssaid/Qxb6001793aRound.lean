/-
  THE DECODER AT EVERY LIST; zzSameBytes; THE LAW OF THE ROUND TRIP.
-/
import Derived.Test.Qxb6001793aDecWalk
import Derived.Test.Qxb6001793aLen
namespace Go.Proofs.Qxb6001793a
open Go.RowKit

theorem owns_cells {w : World} {n g : Nat} {e : TypeId} {cur : Array Value} {xs : List Value} (hg : w.heap[g]? = some (.cells cur e (0, 0))) (ht : cur.toList.take (n * 1) = xs) (r : Nat) (hr : r < xs.length) : w.cell? ⟨g, r, none⟩ = some xs[r] := by
  have h1 : cur[r]? = some xs[r] := by
    have h2 : (cur.toList.take (n * 1))[r]? = some xs[r] := by rw [ht]; exact List.getElem?_eq_getElem hr
    rw [List.getElem?_take] at h2
    split at h2
    · simpa using h2
    · cases h2
  simp [World.cell?, hg, h1]

theorem owns_item {w : World} {base : Nat} {x : Value} {l : List UInt8} (h : w.ownsRow base 5 1 x l.length (Lib.byteCells l)) : OItem w x l := by
  rcases h.2 with ⟨hx, h0⟩ | ⟨g, cap, cur, hx, _, hg, _, _, _, ht⟩
  · exact Or.inl ⟨hx, List.length_eq_zero_iff.1 h0⟩
  · refine Or.inr ⟨g, cap, hx, ?_, fun j hj => ?_⟩
    · rcases Nat.lt_or_ge g w.heap.size with h' | h'
      · exact h'
      · simp [Array.getElem?_eq_none h'] at hg
    · have := owns_cells hg ht j (by rw [Lib.byteCells_length]; exact hj)
      rw [this]
      simp [Lib.byteCells]

theorem dmid_items {w w' : World} {I : List (List UInt8)} {vo : Value} {xs : List Value} (h : DMid w w' I I.length vo xs) : OItems w' vo I := by
  have hlen := h.own.1
  rcases h.own.2 with ⟨hx, h0⟩ | ⟨g, cap, cur, hx, _, hg, _, _, _, ht⟩
  · refine ⟨none, 0, by rw [hx, h0], fun hne => absurd (List.length_eq_zero_iff.1 h0) hne⟩
  · refine ⟨_, cap, hx, fun _ => ⟨g, rfl, fun r hr => ?_⟩⟩
    have hr' : r < xs.length := by omega
    exact ⟨xs[r], owns_cells hg ht r hr', owns_item (h.items r hr' hr)⟩

set_option maxHeartbeats 1000000 in
set_option maxRecDepth 100000 in
theorem decode_nil (S : ByteArray) (w : World) (hS : S.data.toList = text []) :
    Calls Try.prog 14 #[.string S] w fun e w' => ∃ vo, e = .returned (.tuple #[vo, .bool true]) ∧ OItems w' vo [] ∧ Below w.heap.size w w' := by
  have hS2 : S = ⟨#[123, 125]⟩ := by
    cases S with | mk d => cases d with | mk l => simp only [text, body] at hS; simp at hS; subst hS; rfl
  subst hS2
  clear hS
  go_enter Try.func14, Try.ntmps14
  go_wp2_with fail
  go_ret2
  exact ⟨_, rfl, ⟨_, _, rfl, fun h => absurd rfl h⟩, (Below.refl _ w).alloc (Nat.le_refl _) _⟩

theorem decode_any (S : ByteArray) (I : List (List UInt8)) (w : World) (hS : S.data.toList = text I) (hbnd : 24 * I.length + bytesOf I ≤ 1048576) :
    Calls Try.prog 14 #[.string S] w fun e w' => ∃ vo, e = .returned (.tuple #[vo, .bool true]) ∧ OItems w' vo I ∧ Below w.heap.size w w' := by
  by_cases hne : I = []
  · subst hne
    exact decode_nil S w hS
  · refine (decode_walk S I w hS hne hbnd).mono ?_
    rintro e w' ⟨vo, xs, rfl, hM⟩
    exact ⟨vo, rfl, dmid_items hM, hM.below⟩

theorem OItem.at {w : World} {xa : Option Addr} {xn xc : Nat} {l : List UInt8} (h : OItem w (.slice xa xn xc) l) (hl : 0 < l.length) : ∃ b, xa = some ⟨b, 0, none⟩ ∧ ∀ j (hj : j < l.length), w.cell? ⟨b, j, none⟩ = some (.int .u8 (l[j].toNat : Int)) := by
  rcases h with ⟨_, h2⟩ | ⟨b, cap, hx, hlt, hc⟩
  · rw [h2] at hl; simp at hl
  · cases hx
    exact ⟨b, rfl, hc⟩

set_option maxHeartbeats 1000000 in
set_option maxRecDepth 100000 in
theorem same16 (x y : Value) (l : List UInt8) (w : World) (hx : OItem w x l) (hy : OItem w y l) (hl : l.length ≤ 1048576) :
    Calls Try.prog 16 #[x, y] w fun e w' => e = .returned (.bool true) ∧ ∃ m, w' = w.drewN m := by
  obtain ⟨xa, xc, ex⟩ := item_len hx
  obtain ⟨ya, yc, ey⟩ := item_len hy
  subst ex
  subst ey
  have HX : Hid (OItem w (.slice xa l.length xc) l) := hx
  have HY : Hid (OItem w (.slice ya l.length yc) l) := hy
  clear hx hy
  go_enter Try.func16, Try.ntmps16
  go_wp2_with fail
  go_loopg [5] l.length (fun g i wr => ∃ k m : Nat, g + k = l.length ∧ k ≤ l.length ∧ i = .int .i64 k ∧ wr = w.drewN m)
  case atStart => exact ⟨0, 0, rfl, Nat.zero_le _, rfl, rfl⟩
  case round =>
    obtain ⟨k, m, hg, hk, rfl, rfl⟩ := hrel
    have Hg : Hid (gk + k = l.length) := hg
    clear hg
    by_cases hlt : k < l.length
    · obtain ⟨bx, ax, hcx⟩ := HX.out.at (by omega)
      obtain ⟨bb, ay, hcy⟩ := HY.out.at (by omega)
      subst ax
      subst ay
      have c1 := hcx k hlt
      have c2 := hcy k hlt
      clear hcx hcy
      have t1 : (k : Int) < (l.length : Int) := by omega
      have t2 : (0 : Int) ≤ (k : Int) := by omega
      have t3 : ((k : Int)).toNat = k := by omega
      go_wp2_with fail
      go_quiet (fail)
      go_wp2_with fail
      go_roundg (gk - 1)
      case measure => have := Hg.out; omega
      case rel => have := Hg.out; exact ⟨k + 1, _, by omega, by omega, by go_num, rfl⟩
    · obtain rfl : k = l.length := by omega
      go_wp2_with fail
      go_ret
      exact ⟨rfl, m, rfl⟩

set_option maxHeartbeats 2000000 in
set_option maxRecDepth 100000 in
theorem fn5_walk (v0 : Value) (I : List (List UInt8)) (w : World) (h0 : ArgIs w v0 I) :
    Calls Try.prog 5 #[v0] w fun e w' => e = .returned (.bool true) ∧ Below w.heap.size w w' := by
  have Z11 : Hid (Calls Try.prog 11 #[v0] w (SomeBool w)) := zz11_arg h0
  have C0 : Hid (Calls Try.prog 12 #[v0] w (Counted w (24 * I.length + bytesOf I))) := items_arg h0
  have H0 : Hid (ArgIs w v0 I) := h0
  obtain ⟨a0, c0, hv0, n0⟩ := h0.shape
  subst hv0
  clear h0
  go_enter Try.func5, Try.ntmps5
  go_wp2_with fail
  refine Calls.mono Z11.out ?_
  rintro e w' ⟨b, rfl, rfl⟩
  cases b with
  | false =>
    go_wp2_with fail
    go_ret
    exact ⟨rfl, Below.refl _ _⟩
  | true =>
    by_cases q0 : (I.length : Int) ≤ 65536
    · go_wp2_with fail
      refine Calls.mono C0.out ?_
      rintro e w' ⟨m0, rfl, hm0, hm0a, hm0b, rfl⟩
      by_cases r0 : m0 ≤ 1048576
      · have bn : Hid (24 * I.length + bytesOf I ≤ 1048576) := by have e0 := hm0 r0; rw [Hid]; omega
        clear hm0
        go_wp2_with fail
        refine Calls.mono (clone_arg H0.out bn.out) ?_
        rintro e w1 ⟨va, rfl, hoa, b1⟩
        obtain ⟨aa, ca, hva, hca⟩ := hoa
        subst hva
        have HA : Hid (OItems w1 (.slice aa I.length ca) I) := ⟨aa, ca, rfl, hca⟩
        clear hca
        go_wp2_with fail
        refine Calls.mono (bytea_any HA.out bn.out) ?_
        rintro e w2 ⟨rfl, b2⟩
        have HA2 : Hid (OItems w2 (.slice aa I.length ca) I) := HA.out.stays b2
        have B2 : Below w.heap.size w w2 := b1.trans (b2.mono b1.size)
        clear b2 HA
        go_wp2_with fail
        refine Calls.mono (decode_any _ I w2 rfl bn.out) ?_
        rintro e w3 ⟨vo, rfl, hvo, b3⟩
        have HA3 : Hid (OItems w3 (.slice aa I.length ca) I) := HA2.out.stays b3
        have B3 : Below w.heap.size w w3 := B2.trans (b3.mono B2.size)
        clear b3 HA2
        obtain ⟨oa, oc, hov, hco⟩ := hvo
        subst hov
        have HO3 : Hid (OItems w3 (.slice oa I.length oc) I) := ⟨oa, oc, rfl, hco⟩
        clear hco
        go_wp2_with fail
        go_loopg [5] I.length (fun g i wr => ∃ k : Nat, g + k = I.length ∧ k ≤ I.length ∧ i = .int .i64 k ∧ Below w3.heap.size w3 wr)
        case atStart => exact ⟨0, rfl, Nat.zero_le _, rfl, Below.refl _ _⟩
        case round =>
          obtain ⟨k, hg, hk, rfl, hb4⟩ := hrel
          have Hg : Hid (gk + k = I.length) := hg
          clear hg
          by_cases hlt : k < I.length
          · have hne : I ≠ [] := by intro h; rw [h] at hlt; simp at hlt
            obtain ⟨aa', ca', hsh, hcl⟩ := HA3.out.stays hb4
            cases hsh
            obtain ⟨b, ha, hr⟩ := hcl hne
            subst ha
            obtain ⟨x, hx, hox⟩ := hr k hlt
            obtain ⟨oa', oc', osh, ocl⟩ := HO3.out.stays hb4
            cases osh
            obtain ⟨b', oha, ohr⟩ := ocl hne
            subst oha
            obtain ⟨y, hy, hoy⟩ := ohr k hlt
            have hl1 := bytesOf_one I k hlt
            have hl2 : I[k].length ≤ 1048576 := by have := bn.out; omega
            have HS : Hid (∀ n, Calls Try.prog 16 #[y, x] (wr.drewN n) fun e w' => e = .returned (.bool true) ∧ ∃ m, w' = (wr.drewN n).drewN m) := fun n => same16 y x I[k] _ (hoy.stays (below_drewN (Below.refl _ _) n)) (hox.stays (below_drewN (Below.refl _ _) n)) hl2
            clear hr ohr hcl ocl hox hoy hne hl1 hl2
            have t1 : (k : Int) < (I.length : Int) := by omega
            have t2 : (0 : Int) ≤ (k : Int) := by omega
            have t3 : ((k : Int)).toNat = k := by omega
            go_wp2_with fail
            go_quiet ((go_at_call 16; refine Calls.quiet_of (HS.out _)))
            go_wp2_with fail
            go_roundg (gk - 1)
            case measure => have := Hg.out; omega
            case rel => have := Hg.out; exact ⟨k + 1, by omega, by omega, by go_num, below_drewN hb4 _⟩
          · obtain rfl : k = I.length := by omega
            go_wp2_with fail
            go_ret
            exact ⟨rfl, B3.trans (hb4.mono B3.size)⟩
      · go_wp2_with fail
        go_ret
        exact ⟨rfl, Below.refl _ _⟩
    · go_wp2_with fail
      go_ret
      exact ⟨rfl, Below.refl _ _⟩
end Go.Proofs.Qxb6001793a
