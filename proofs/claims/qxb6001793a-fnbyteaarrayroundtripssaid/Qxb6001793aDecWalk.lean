/-
  THE WALK OF zzDecodeByteaArray.
-/
import Derived.Test.Qxb6001793aDecode
namespace Go.Proofs.Qxb6001793a
open Go.RowKit

theorem owns_below {wb w2 : World} {base : Nat} {e : TypeId} {size n : Nat} {v : Value} {xs : List Value} (h : wb.ownsRow base e size v n xs) (hb : Below wb.heap.size wb w2) : w2.ownsRow base e size v n xs :=
  h.kept (row := some wb.heap.size) ⟨hb.os, hb.tape, hb.output, hb.size, fun k hk _ => hb.block k hk⟩ (Or.inr (fun hh => by have := (h.lt _ hh).2; omega))
theorem owns_base {w : World} {base base' : Nat} {e : TypeId} {size n : Nat} {v : Value} {xs : List Value} (h : w.ownsRow base e size v n xs) (hb : base' ≤ base) : w.ownsRow base' e size v n xs := by
  refine ⟨h.1, ?_⟩
  rcases h.2 with h0 | ⟨g, cap, cur, hv, hg, rest⟩
  · exact Or.inl h0
  · exact Or.inr ⟨g, cap, cur, hv, by omega, rest⟩
theorem owns_ne {w : World} {b1 b2 n m : Nat} {x v : Value} {xs ys : List Value} (h1 : w.ownsRow b1 5 1 x n xs) (h2 : w.ownsRow b2 33 1 v m ys) : x.ownBlock = none ∨ x.ownBlock ≠ v.ownBlock := by
  rcases h1.2 with ⟨rfl, _⟩ | ⟨g, cap, cur, rfl, _, hg, _⟩
  · exact Or.inl rfl
  · right
    rcases h2.2 with ⟨rfl, _⟩ | ⟨g2, cap2, cur2, rfl, _, hg2, _⟩
    · simp [Value.ownBlock]
    · simp only [Value.ownBlock]
      intro hh
      have := Option.some.inj hh
      subst this
      rw [hg] at hg2
      simp at hg2
theorem owns_shape {w : World} {b n : Nat} {e : TypeId} {x : Value} {xs : List Value} (h : w.ownsRow b e 1 x n xs) : ∃ a cap, x = .slice a n cap := by
  rcases h.2 with ⟨rfl, rfl⟩ | ⟨g, cap, cur, rfl, _⟩
  · exact ⟨none, 0, rfl⟩
  · exact ⟨_, cap, rfl⟩

/-- The decoded items so far. -/
structure DMid (w wr : World) (I : List (List UInt8)) (k : Nat) (vo : Value) (xs : List Value) : Prop where
  own : wr.ownsRow w.heap.size 33 1 vo k xs
  items : ∀ r (hr : r < xs.length) (hI : r < I.length), wr.ownsRow w.heap.size 5 1 xs[r] I[r].length (Lib.byteCells I[r])
  below : Below w.heap.size w wr

theorem dmid_below {w wb w2 : World} {I : List (List UInt8)} {k : Nat} {vo : Value} {xs : List Value} (h : DMid w wb I k vo xs) (hb : Below wb.heap.size wb w2) : DMid w w2 I k vo xs :=
  ⟨owns_below h.own hb, fun r hr hI => owns_below (h.items r hr hI) hb, h.below.trans (hb.mono h.below.size)⟩

theorem dmid_put {w wr w4 : World} {I : List (List UInt8)} {k : Nat} {vo vo' vi : Value} {xs : List Value} {O : Obj} (h : DMid w wr I k vo xs) (hk : k < I.length) (hi : wr.ownsRow w.heap.size 5 1 vi I[k].length (Lib.byteCells I[k]))
    (hown : w4.ownsRow w.heap.size 33 1 vo' (k + 1) (xs ++ [vi])) (hg : (wr.alloc O).grownBy w4 vo.ownBlock) : DMid w w4 I (k + 1) vo' (xs ++ [vi]) := by
  have hl : xs.length = k := by have := h.own.1; omega
  have ho := h.own.alloc O
  refine ⟨hown, fun r hr hI => ?_, (h.below.alloc h.below.size _).grown hg (by have := h.below.size; simp; omega) (fun q hq => (h.own.lt q hq).1)⟩
  by_cases e : r < xs.length
  · rw [List.getElem_append_left e]
    have hx := (h.items r e hI).alloc O
    exact hx.kept hg (owns_ne hx ho)
  · have hr' : r = k := by simp at hr; omega
    subst hr'
    rw [List.getElem_append_right (by omega)]
    simp only [hl, Nat.sub_self, List.getElem_cons_zero]
    have hx := hi.alloc O
    exact hx.kept hg (owns_ne hx ho)

theorem one_new5 (w : World) (x : Value) : ∀ j u, [x][j]? = some u → (w.alloc (.cells #[x] 5)).cell? ((⟨w.heap.size, 0, none⟩ : Addr).add j) = some u := by
  intro j u hj
  match j, hj with
  | 0, hj =>
    simp at hj
    subst hj
    simp [Addr.add]
theorem one_new33 (w : World) (x : Value) : ∀ j u, [x][j]? = some u → (w.alloc (.cells #[x] 33)).cell? ((⟨w.heap.size, 0, none⟩ : Addr).add j) = some u := by
  intro j u hj
  match j, hj with
  | 0, hj =>
    simp at hj
    subst hj
    simp [Addr.add]

theorem back (b : UInt8) : bits BinOp.or IntKind.u8 ((b.toNat : Int) / 16 * 16) ((b.toNat : Int) % 16) = (b.toNat : Int) := by
  have hb := b.toNat_lt
  have h := Lib.Hx.or_digits (b.toNat / 16) (b.toNat % 16) (by omega) (by omega)
  have e : b.toNat / 16 * 16 + b.toNat % 16 = b.toNat := by omega
  rw [e, UInt8.ofNat_toNat] at h
  exact h

set_option maxHeartbeats 2000000 in
set_option maxRecDepth 100000 in
theorem decode_walk (S : ByteArray) (I : List (List UInt8)) (w : World) (hS : S.data.toList = text I) (hne : I ≠ []) (hbnd : 24 * I.length + bytesOf I ≤ 1048576) :
    Calls Try.prog 14 #[.string S] w fun e w' => ∃ vo xs, e = .returned (.tuple #[vo, .bool true]) ∧ DMid w w' I I.length vo xs := by
  obtain ⟨i0, hi, hz0, hz1, hz2⟩ := info_parts Try.info33
  obtain ⟨j0, ji, jz0, jz1, jz2⟩ := info_parts Try.info5
  have hl0 : 0 < I.length := List.length_pos_iff.2 hne
  have HS : Hid (S.data.toList = text I) := hS
  have hsz : S.size = (text I).length := by rw [← hS]; rfl
  have htl : (text I).length ≤ 2 + 2 * bytesOf I + 6 * I.length := by
    have := body_len I
    simp only [text, List.length_cons, List.length_append, List.length_nil]
    omega
  have hs16 : S.size ≤ 16777216 := by omega
  have hs2 : 3 ≤ S.size := by
    obtain ⟨hb0, _⟩ := elem_bytes S I 0 hS hl0
    omega
  have z0 : 0 < S.size := by omega
  have z1 : S.size - 1 < S.size := by omega
  have f0 : ((S[0]'z0).toNat : Int) = 123 := by
    obtain ⟨_, e⟩ := mid_at S [] [123] (body I ++ [125]) (by rw [hS]; rfl) 0 (by simp)
    simp only [List.length_nil] at e
    rw [e]; rfl
  have f1 : ((S[S.size - 1]'z1).toNat : Int) = 125 := by
    obtain ⟨_, e⟩ := mid_at S (123 :: body I) [125] [] (by rw [hS]; simp [text]) 0 (by simp)
    have en : (123 :: body I).length + 0 = S.size - 1 := by rw [hsz]; simp [text]
    simp only [en] at e
    rw [e]; rfl
  have n2 : ((S.size : Int) == 2) = false := by simp; omega
  have d2 : decide ((S.size : Int) < 2) = false := by simp; omega
  clear hsz htl hS
  go_enter Try.func14, Try.ntmps14
  go_wp2_with fail
  go_loopg [5, 6] I.length (fun g vo i wr => ∃ (k : Nat) (xs : List Value), g + k = I.length ∧ k < I.length ∧ i = .int .i64 ((ahd I k).length : Int) ∧ DMid w wr I k vo xs)
  case atStart =>
    exact ⟨0, [], rfl, hl0, by rw [ahd_zero]; rfl, World.ownsRow_lit w #[] 0 (Nat.le_refl _) (by unfold maxLen; omega) rfl, fun r hr => absurd hr (by simp), (Below.refl _ w).alloc (Nat.le_refl _) _⟩
  case round =>
    rename World => wb
    rename Nat => g1
    obtain ⟨k, xs, hg, hk, hi6, hM⟩ := hrel
    subst hi6
    have Hg : Hid (g1 + k = I.length) := hg
    clear hg f0 f1 n2 d2
    obtain ⟨hz, y0, y1, y2, y3, yh, y4, y5, ylast⟩ := elem_bytes S I k HS.out hk
    have HP : Hid ((ahd I (k + 1)).length = (ahd I k).length + 2 * I[k].length + 6 ∨ k + 1 = I.length) := by
      by_cases e : k + 1 = I.length
      · exact Or.inr e
      · exact Or.inl (ahd_succ I k hk)
    have hLk : I[k].length ≤ 1048576 := by have := bytesOf_one I k hk; omega
    have HH : Hid (∀ j (hj : j < I[k].length), ((S[(ahd I k).length + 4 + 2 * j]'(by omega)).toNat : Int) = (Lib.Hx.digit (I[k][j].toNat / 16)).toNat ∧ ((S[(ahd I k).length + 4 + 2 * j + 1]'(by omega)).toNat : Int) = (Lib.Hx.digit (I[k][j].toNat % 16)).toNat) := yh
    have HL : Hid (k + 1 = I.length → (ahd I k).length + 6 + 2 * I[k].length = S.size) := ylast
    have H4 : Hid (((S[(ahd I k).length + 4 + 2 * I[k].length]'(by omega)).toNat : Int) = 34) := y4
    have H5 : Hid (((S[(ahd I k).length + 5 + 2 * I[k].length]'(by omega)).toNat : Int) = (if k + 1 = I.length then 125 else 44)) := y5
    clear yh ylast y4 y5
    go_wp2_with fail
    go_loopg [6, 7] I[k].length (fun g i v w2 => ∃ j : Nat, g + j = I[k].length ∧ j ≤ I[k].length ∧ i = .int .i64 (((ahd I k).length + 4 + 2 * j : Nat) : Int) ∧ w2.ownsRow wb.heap.size 5 1 v j (Lib.byteCells (I[k].take j)) ∧ Below wb.heap.size wb w2)
    case atStart =>
      exact ⟨0, rfl, Nat.zero_le _, by go_num, World.ownsRow_lit wb #[] 0 (Nat.le_refl _) (by unfold maxLen; omega) rfl, (Below.refl _ wb).alloc (Nat.le_refl _) _⟩
    case round =>
      clear y0 y1 y2 y3
      rename Nat => g2
      obtain ⟨j, hg2, hj, rfl, hown, hbel⟩ := hrel
      have Hg2 : Hid (g2 + j = I[k].length) := hg2
      clear hg2
      by_cases hjL : j < I[k].length
      · obtain ⟨e1, e2⟩ := HH.out j hjL
        have E1 : Hid _ := e1
        have E2 : Hid _ := e2
        have hbj := (I[k][j]).toNat_lt
        have x34 : (((S[(ahd I k).length + 4 + 2 * j]'(by omega)).toNat : Int) != 34) = true := by
          rw [bne_iff_ne, e1]; exact digit_ne _ (by omega)
        have r1 : (ahd I k).length + 4 + 2 * j + 1 < S.size := by omega
        have r0 : (ahd I k).length + 4 + 2 * j < S.size := by omega
        clear e1 e2
        go_wp2_with fail
        refine (hexval (I[k][j].toNat / 16) _ _ (by omega) E1.out).mono ?_
        rintro e w' ⟨rfl, rfl⟩
        go_wp2_with fail
        refine (hexval (I[k][j].toNat % 16) _ _ (by omega) E2.out).mono ?_
        rintro e w' ⟨rfl, rfl⟩
        go_wp2_with (at_builtin; refine wpList_append_own _ rfl (.tmp 103) (.tmp 108) 33 rfl wb.heap.size 5 j0 (.int .u8 0) 1 1 Try.underlying33 ji jz0 jz1 jz2 rfl (by decide) _ j _ rfl (hown.alloc _) ⟨wr.heap.size, 0, none⟩ 1 1 [_] rfl rfl (one_new5 _ _) (by intro u hu; simp at hu; subst hu; rfl) (by unfold maxLen; omega) (by omega) (by have := hbel.size; simp; omega) ?_)
        intro v' w4 ho4 hg4 _
        have ho5 : w4.ownsRow wb.heap.size 5 1 v' (j + 1) (Lib.byteCells (I[k].take (j + 1))) := by
          rw [back] at ho4
          rw [List.take_succ_eq_append_getElem hjL, Lib.byteCells_append]
          exact ho4
        have hbel4 : Below wb.heap.size wb w4 := (hbel.alloc hbel.size _).grown hg4 (by have := hbel.size; simp; omega) (fun q hq => (hown.lt q hq).1)
        clear ho4 hg4
        go_wp2_with fail
        go_roundg (g2 - 1)
        case measure => have := Hg2.out; omega
        case rel => have := Hg2.out; exact ⟨j + 1, by omega, by omega, by go_num, ho5, hbel4⟩
      · have ej : j = I[k].length := by omega
        subst ej
        have y4 := H4.out
        have hM2 := dmid_below hM hbel
        have hit := owns_base hown hM.below.size
        rw [List.take_length] at hit
        have y5 : ((S[(ahd I k).length + 4 + 2 * I[k].length + 1]'(by omega)).toNat : Int) = (if k + 1 = I.length then 125 else 44) := by
          have h5i : (ahd I k).length + 5 + 2 * I[k].length = (ahd I k).length + 4 + 2 * I[k].length + 1 := by omega
          have z := H5.out
          simp only [h5i] at z
          exact z
        clear hown
        obtain ⟨xa, xc, hxs⟩ := owns_shape hit
        subst hxs
        by_cases hlast : k + 1 = I.length
        · rw [if_pos hlast] at y5
          have hl1 : (((ahd I k).length : Int) + 4 + 2 * (I[k].length : Int) + 1 == (S.size : Int) - 1) = true := by have := HL.out hlast; simp; omega
          have HLast : Hid (k + 1 = I.length) := hlast
          clear hlast
          go_wp2_with (at_builtin; refine wpList_append_own _ rfl (.tmp 117) (.tmp 119) 25 rfl w.heap.size 33 i0 (.slice none 0 0) 1 24 Try.underlying25 hi hz0 hz1 hz2 rfl (by decide) _ k _ rfl (hM2.own.alloc _) ⟨wr.heap.size, 0, none⟩ 1 1 [_] rfl rfl (one_new33 _ _) (by intro u hu; simp at hu; subst hu; rfl) (by unfold maxLen; omega) (by omega) (by have := hM2.below.size; simp; omega) ?_)
          intro v' w4 ho4 hg4 _
          have hM4 := dmid_put hM2 hk hit ho4 hg4
          clear ho4 hg4
          go_wp2_with fail
          go_ret2
          rw [HLast.out] at hM4
          exact ⟨_, _, rfl, hM4⟩
        · rw [if_neg hlast] at y5
          have Hp : Hid ((ahd I (k + 1)).length = (ahd I k).length + 2 * I[k].length + 6) := by
            rcases HP.out with h | h
            · exact h
            · exact absurd h hlast
          have HLast : Hid (k + 1 < I.length) := by rw [Hid]; omega
          clear hlast
          go_wp2_with (at_builtin; refine wpList_append_own _ rfl (.tmp 117) (.tmp 119) 25 rfl w.heap.size 33 i0 (.slice none 0 0) 1 24 Try.underlying25 hi hz0 hz1 hz2 rfl (by decide) _ k _ rfl (hM2.own.alloc _) ⟨wr.heap.size, 0, none⟩ 1 1 [_] rfl rfl (one_new33 _ _) (by intro u hu; simp at hu; subst hu; rfl) (by unfold maxLen; omega) (by omega) (by have := hM2.below.size; simp; omega) ?_)
          intro v' w4 ho4 hg4 _
          have hM4 := dmid_put hM2 hk hit ho4 hg4
          clear ho4 hg4
          go_wp2_with fail
          go_roundg (g1 - 1)
          case measure => have := Hg.out; have := HLast.out; omega
          case rel => have := Hg.out; have := HLast.out; have := Hp.out; exact ⟨k + 1, _, by omega, by omega, by rw [Hp.out]; go_num, hM4⟩
end Go.Proofs.Qxb6001793a
