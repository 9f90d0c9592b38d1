/-
  THE WALK OF FnByteaArrayConcatenates.
-/
import Derived.Test.Qxb6001793aTwo
namespace Go.Proofs.Qxb6001793a
open Go.RowKit

theorem Came.stays {w w' : World} {b o N : Nat} {A : Nat → Option Addr} {L C : Nat → Nat} {Z : Nat → List UInt8} (h : Came w b o N A L C Z) (hb : Below w.heap.size w w') : Came w' b o N A L C Z :=
  ⟨fun r hr => (hb.cell (p := ⟨b, o + r, none⟩) (cell_lt (h.cell r hr))).trans (h.cell r hr), h.len, h.nil, h.big, fun r hr hl => by
    obtain ⟨b', o', ha, hc⟩ := h.bytes r hr hl
    exact ⟨b', o', ha, fun j hj => (hb.cell (p := ⟨b', o' + j, none⟩) (cell_lt (hc j hj))).trans (hc j hj)⟩⟩
theorem ArgIs.stays {w w' : World} {v : Value} {I : List (List UInt8)} (h : ArgIs w v I) (hb : Below w.heap.size w w') : ArgIs w' v I := by
  rcases h with h | ⟨b, o, N, cap, A, L, C, Z, hv, hp, hN, hC, hI⟩
  · exact Or.inl h
  · exact Or.inr ⟨b, o, N, cap, A, L, C, Z, hv, hp, hN, hC.stays hb, hI⟩

/-- The joined row so far: cells xs, each an item of K. -/
structure Joined (w2 wr : World) (K : List (List UInt8)) (n k : Nat) (xs : List Value) : Prop where
  own : wr.ownsRow w2.heap.size 33 1 (.slice (some ⟨w2.heap.size, 0, none⟩) k n) k xs
  items : ∀ r (hr : r < xs.length) (hk : r < K.length), OItem w2 xs[r] K[r]
  below : Below w2.heap.size w2 wr

theorem joined_len {w2 wr : World} {K : List (List UInt8)} {n k : Nat} {xs : List Value} (h : Joined w2 wr K n k xs) : xs.length = k := by
  have := h.own.1; omega

theorem joined_put {w2 wr wx : World} {K : List (List UInt8)} {n k : Nat} {xs : List Value} {x : Value} {O : Obj} (h : Joined w2 wr K n k xs) (hk : k < K.length) (hx : OItem w2 x K[k])
    (hown : wx.ownsRow w2.heap.size 33 1 (.slice (some ⟨w2.heap.size, 0, none⟩) (k + 1) n) (k + 1) (xs ++ [x])) (hg : (wr.alloc O).grownBy wx (some w2.heap.size)) : Joined w2 wx K n (k + 1) (xs ++ [x]) := by
  have hl := joined_len h
  refine ⟨hown, fun r hr hkr => ?_, (h.below.alloc h.below.size _).grown hg (by have := h.below.size; simp; omega) (by intro q hq; simp at hq; omega)⟩
  by_cases e : r < xs.length
  · rw [List.getElem_append_left e]; exact h.items r e hkr
  · have hr' : r = k := by simp at hr; omega
    subst hr'
    rw [List.getElem_append_right (by omega)]
    simp only [hl, Nat.sub_self, List.getElem_cons_zero]
    exact hx

theorem joined_items {w2 wr : World} {K : List (List UInt8)} {n : Nat} {xs : List Value} (h : Joined w2 wr K n K.length xs) : OItems wr (.slice (some ⟨w2.heap.size, 0, none⟩) K.length n) K := by
  have hl := joined_len h
  refine ⟨some ⟨w2.heap.size, 0, none⟩, n, rfl, fun _ => ⟨w2.heap.size, rfl, fun r hr => ?_⟩⟩
  refine ⟨xs[r]'(by omega), ?_, (h.items r (by omega) hr).stays h.below⟩
  obtain ⟨_, h2⟩ := h.own
  rcases h2 with ⟨h0, _⟩ | ⟨g, cap', cur, hv, _, hgc, hcap, _, hcs, htk⟩
  · cases h0
  · cases hv
    have h1 : cur[r]? = some (xs[r]'(by omega)) := by
      have e : (cur.toList.take (K.length * 1))[r]? = xs[r]? := by rw [htk]
      rw [List.getElem?_take_of_lt (by omega)] at e
      rw [← Array.getElem?_toList, e, List.getElem?_eq_getElem (by omega)]
    simp [World.cell?, hgc, h1]

theorem item_shape {w : World} {x : Value} {l : List UInt8} (h : OItem w x l) : ∃ xa xn xc, x = .slice xa xn xc := by
  rcases h with ⟨h1, _⟩ | ⟨b2, c2, h1, _⟩
  · exact ⟨_, _, _, h1⟩
  · exact ⟨_, _, _, h1⟩

theorem one_new33 (w : World) (x : Value) : ∀ j u, [x][j]? = some u → (w.alloc (.cells #[x] 33)).cell? ((⟨w.heap.size, 0, none⟩ : Addr).add j) = some u := by
  intro j u hj
  match j, hj with
  | 0, hj =>
    simp at hj
    subst hj
    simp [Addr.add]

theorem ret_true {a : Bool} (h : a = true) : Ending.returned (.bool a) = .returned (.bool true) := by rw [h]
theorem ba_of (a : ByteArray) (l : List UInt8) (h : a.data.toList = l) : a = ⟨l.toArray⟩ := by
  subst h; cases a; simp
theorem cut_last (l : List UInt8) (h : 2 ≤ l.length) (wx : World) : (Instr.slice 9 (.string ⟨l.toArray⟩) none (some (.int .i64 ((l.length : Int) - 1))) none).run Try.prog wx = .ok (.string ⟨(l.take (l.length - 1)).toArray⟩) wx := by
  rw [run_slice_string_h (P := Try.prog) wx 9 ⟨l.toArray⟩ Try.underlying9 .i64 ((l.length : Int) - 1) (by omega) (by simp [ByteArray.size]; omega)]
  have e : ((l.length : Int) - 1).toNat = l.length - 1 := by omega
  have e2 : ByteArray.extract ⟨l.toArray⟩ 0 (l.length - 1) = ⟨(l.take (l.length - 1)).toArray⟩ := ba_of _ _ (by rw [ByteArray.data_extract, Array.toList_extract]; simp [List.extract])
  rw [e, e2]
theorem cut_first (l : List UInt8) (h : 2 ≤ l.length) (wx : World) : (Instr.slice 9 (.string ⟨l.toArray⟩) (some (.int .i64 1)) none none).run Try.prog wx = .ok (.string ⟨(l.drop 1).toArray⟩) wx := by
  rw [run_slice_string_l (P := Try.prog) wx 9 ⟨l.toArray⟩ Try.underlying9 .i64 1 (by omega) (by simp [ByteArray.size]; omega)]
  have e2 : ByteArray.extract ⟨l.toArray⟩ (Int.toNat 1) (ByteArray.size ⟨l.toArray⟩) = ⟨(l.drop 1).toArray⟩ := ba_of _ _ (by rw [ByteArray.data_extract, Array.toList_extract]; simp [List.extract, ByteArray.size]; exact List.take_of_length_le (by simp))
  rw [e2]
theorem text_len2 (I : List (List UInt8)) : 2 ≤ (text I).length := by simp [text]
theorem text_len (I : List (List UInt8)) : (text I).length ≤ 2 + 2 * bytesOf I + 6 * I.length := by
  have := body_len I
  simp only [text, List.length_cons, List.length_append, List.length_nil]
  omega
theorem text_join (I J : List (List UInt8)) (hI : I ≠ []) (hJ : J ≠ []) : text (I ++ J) = (text I).take ((text I).length - 1) ++ 44 :: (text J).drop 1 := by
  have e1 : (text I).take ((text I).length - 1) = 123 :: body I := by
    rw [text]
    have : (123 :: (body I ++ [125])).length - 1 = (123 :: body I).length := by simp
    rw [this, show (123 :: (body I ++ [125])) = (123 :: body I) ++ [125] by simp, List.take_left]
  have e2 : (text J).drop 1 = body J ++ [125] := rfl
  rw [e1, e2, text, body_join I J hI hJ]
  simp

set_option maxHeartbeats 2000000 in
set_option maxRecDepth 100000 in
theorem fn6_walk (v0 v1 : Value) (I J : List (List UInt8)) (w : World) (h0 : ArgIs w v0 I) (h1 : ArgIs w v1 J) :
    Calls Try.prog 6 #[v0, v1] w fun e w' => e = .returned (.bool true) ∧ Below w.heap.size w w' := by
  have Z17 : Hid (Calls Try.prog 17 #[v0, v1] w (SomeBool w)) := zz17_arg h0 h1
  have C0 : Hid (Calls Try.prog 12 #[v0] w (Counted w (24 * I.length + bytesOf I))) := items_arg h0
  have C1 : Hid (Calls Try.prog 12 #[v1] w (Counted w (24 * J.length + bytesOf J))) := items_arg h1
  have H0 : Hid (ArgIs w v0 I) := h0
  have H1 : Hid (ArgIs w v1 J) := h1
  obtain ⟨a0, c0, hv0, n0⟩ := h0.shape
  obtain ⟨a1, c1, hv1, n1⟩ := h1.shape
  subst hv0 hv1
  clear h0 h1
  obtain ⟨i0, hi, hz0, hz1, hz2⟩ := info_parts Try.info33
  go_enter Try.func6, Try.ntmps6
  go_wp2_with fail
  refine Calls.mono Z17.out ?_
  rintro e w' ⟨b, rfl, rfl⟩
  cases b with
  | false =>
    go_wp2_with fail
    go_ret
    exact ⟨rfl, Below.refl _ _⟩
  | true =>
    by_cases q0 : (I.length : Int) ≤ 65536
    · by_cases q1 : (J.length : Int) ≤ 65536
      · go_wp2_with fail
        refine Calls.mono C0.out ?_
        rintro e w' ⟨m0, rfl, hm0, hm0a, hm0b, rfl⟩
        go_wp2_with fail
        refine Calls.mono C1.out ?_
        rintro e w' ⟨m1, rfl, hm1, hm1a, hm1b, rfl⟩
        by_cases r0 : m0 ≤ 1048576
        · by_cases r1 : m1 ≤ 1048576
          · by_cases r2 : m0 + m1 ≤ 1048576
            · have bn : Hid (24 * (I.length + J.length) + (bytesOf I + bytesOf J) ≤ 1048576) := by
                have e0 := hm0 r0
                have e1 := hm1 r1
                rw [Hid]; omega
              clear hm0 hm1
              go_wp2_with fail
              refine Calls.mono (clone_arg H0.out (by have := bn.out; omega)) ?_
              rintro e w1 ⟨va, rfl, hoa, b1⟩
              obtain ⟨aa, ca, hva, hca⟩ := hoa
              subst hva
              have HA : Hid (OItems w1 (.slice aa I.length ca) I) := ⟨aa, ca, rfl, hca⟩
              clear hca
              go_wp2_with fail
              refine Calls.mono (clone_arg (H1.out.stays b1) (by have := bn.out; omega)) ?_
              rintro e w2 ⟨vb, rfl, hob, b2⟩
              obtain ⟨ab, cb, hvb, hcb⟩ := hob
              subst hvb
              have HA2 : Hid (OItems w2 (.slice aa I.length ca) I) := HA.out.stays b2
              have HB2 : Hid (OItems w2 (.slice ab J.length cb) J) := ⟨ab, cb, rfl, hcb⟩
              have B2 : Below w.heap.size w w2 := b1.trans (b2.mono b1.size)
              clear hcb HA b1 b2
              go_wp2_with (at_make; refine wpList_make_own _ rfl _ _ 25 rfl w2.heap.size 33 i0 (.slice none 0 0) 1 Try.underlying25 hi hz0 hz1 _ _ _ (I.length + J.length) rfl rfl (by go_num) ?b2 ?b3 (Nat.le_refl _) ?_)
              case b2 => rw [hz2]; omega
              case b3 => unfold maxLen; omega
              intro w3 hown3 hgrow3
              have B3 : Below w2.heap.size w2 w3 := (Below.refl _ w2).grown hgrow3 (Nat.le_refl _) (by intro k hk; cases hk)
              clear hgrow3
              go_wp2_with fail
              go_loopg [7, 8] I.length (fun g p i wr => ∃ (k : Nat) (xs : List Value), g + k = I.length ∧ k ≤ I.length ∧ i = .int .i64 k ∧ p = .slice (some ⟨w2.heap.size, 0, none⟩) k (I.length + J.length) ∧ Joined w2 wr (I ++ J) (I.length + J.length) k xs)
              case atStart => exact ⟨0, [], rfl, Nat.zero_le _, rfl, rfl, hown3, fun r hr => absurd hr (by simp), B3⟩
              case round =>
                obtain ⟨k, xs, hg, hk, rfl, rfl, hJ⟩ := hrel
                have Hg : Hid (gk + k = I.length) := hg
                clear hg hown3 B3
                by_cases hlt : k < I.length
                · have hne : I ≠ [] := by intro h; rw [h] at hlt; simp at hlt
                  obtain ⟨aa', ca', hsh, hcl⟩ := HA2.out
                  cases hsh
                  obtain ⟨b, ha, hr⟩ := hcl hne
                  subst ha
                  obtain ⟨x, hx, hox⟩ := hr k hlt
                  have hcx : wr.cell? ⟨b, k, none⟩ = some x := (hJ.below.cell (p := ⟨b, k, none⟩) (cell_lt hx)).trans hx
                  have hKk : k < (I ++ J).length := by simp; omega
                  have HO : Hid (OItem w2 x ((I ++ J)[k]'hKk)) := by rw [Hid, List.getElem_append_left hlt]; exact hox
                  obtain ⟨xa, xn, xc, hxs⟩ := item_shape hox
                  subst hxs
                  clear hr hcl hx hox hne
                  go_wp2_with (at_builtin; refine wpList_append_fits _ rfl (.tmp 55) (.tmp 60) 25 rfl w2.heap.size 33 i0 1 Try.underlying25 hi hz1 w2.heap.size k (I.length + J.length) xs rfl (hJ.own.alloc _) ⟨wr.heap.size, 0, none⟩ 1 1 [.slice xa xn xc] rfl rfl (one_new33 _ _) (by intro u hu; simp at hu; subst hu; rfl) (by omega) ?_)
                  intro w4 hown4 hgrow4
                  have hJ4 := joined_put hJ (by simp; omega) HO.out hown4 hgrow4
                  clear hown4 hgrow4
                  go_wp2_with fail
                  go_roundg (gk - 1)
                  case measure => have := Hg.out; omega
                  case rel => have := Hg.out; exact ⟨k + 1, _, by omega, by omega, by go_num, rfl, hJ4⟩
                · obtain rfl : k = I.length := by omega
                  clear hlt hk Hg
                  go_wp2_with fail
                  go_loopg [7, 9] J.length (fun g p i wr => ∃ (k : Nat) (xs : List Value), g + k = J.length ∧ k ≤ J.length ∧ i = .int .i64 k ∧ p = .slice (some ⟨w2.heap.size, 0, none⟩) (I.length + k) (I.length + J.length) ∧ Joined w2 wr (I ++ J) (I.length + J.length) (I.length + k) xs)
                  case atStart => exact ⟨0, xs, rfl, Nat.zero_le _, rfl, rfl, hJ⟩
                  case round =>
                    clear hJ
                    obtain ⟨k, ys, hg, hk, rfl, rfl, hJ⟩ := hrel
                    have Hg : Hid (gk + k = J.length) := hg
                    clear hg
                    by_cases hlt : k < J.length
                    · have hne : J ≠ [] := by intro h; rw [h] at hlt; simp at hlt
                      obtain ⟨aa', ca', hsh, hcl⟩ := HB2.out
                      cases hsh
                      obtain ⟨b, ha, hr⟩ := hcl hne
                      subst ha
                      obtain ⟨x, hx, hox⟩ := hr k hlt
                      have hcx : wr.cell? ⟨b, k, none⟩ = some x := (hJ.below.cell (p := ⟨b, k, none⟩) (cell_lt hx)).trans hx
                      have hKk : I.length + k < (I ++ J).length := by simp; omega
                      have HO : Hid (OItem w2 x ((I ++ J)[I.length + k]'hKk)) := by
                        rw [Hid, List.getElem_append_right (by omega)]
                        simp only [Nat.add_sub_cancel_left]
                        exact hox
                      obtain ⟨xa, xn, xc, hxs⟩ := item_shape hox
                      subst hxs
                      clear hr hcl hx hox hne
                      go_wp2_with (at_builtin; refine wpList_append_fits _ rfl (.tmp 68) (.tmp 73) 25 rfl w2.heap.size 33 i0 1 Try.underlying25 hi hz1 w2.heap.size (I.length + k) (I.length + J.length) ys rfl (hJ.own.alloc _) ⟨wr.heap.size, 0, none⟩ 1 1 [.slice xa xn xc] rfl rfl (one_new33 _ _) (by intro u hu; simp at hu; subst hu; rfl) (by omega) ?_)
                      intro w4 hown4 hgrow4
                      have hJ4 := joined_put hJ (by simp; omega) HO.out hown4 hgrow4
                      clear hown4 hgrow4
                      go_wp2_with fail
                      go_roundg (gk - 1)
                      case measure => have := Hg.out; omega
                      case rel => have := Hg.out; exact ⟨k + 1, _, by omega, by omega, by go_num, by simp [Nat.add_assoc], by rw [← Nat.add_assoc]; exact hJ4⟩
                    · obtain rfl : k = J.length := by omega
                      clear hlt hk Hg
                      have eK : I.length + J.length = (I ++ J).length := by simp
                      have HJI : Hid (OItems wr (.slice (some ⟨w2.heap.size, 0, none⟩) (I.length + J.length) (I.length + J.length)) (I ++ J)) := by
                        rw [Hid]
                        rw [eK] at hJ ⊢
                        exact joined_items hJ
                      have HbK : Hid (24 * (I ++ J).length + bytesOf (I ++ J) ≤ 1048576) := by
                        have := bn.out
                        rw [Hid]
                        unfold bytesOf at this ⊢
                        rw [List.map_append, List.sum_append, List.length_append]
                        exact this
                      have HA3 : Hid (OItems wr (.slice aa I.length ca) I) := HA2.out.stays hJ.below
                      have HB3 : Hid (OItems wr (.slice ab J.length cb) J) := HB2.out.stays hJ.below
                      have B4 : Below w.heap.size w wr := B2.trans (hJ.below.mono B2.size)
                      clear hJ HA2 HB2 B2 eK
                      go_wp2_with fail
                      refine Calls.mono (bytea_any HA3.out (by have := bn.out; omega)) ?_
                      rintro e w5 ⟨rfl, b5⟩
                      have HB5 : Hid (OItems w5 (.slice ab J.length cb) J) := HB3.out.stays b5
                      have HJ5 : Hid (OItems w5 (.slice (some ⟨w2.heap.size, 0, none⟩) (I.length + J.length) (I.length + J.length)) (I ++ J)) := HJI.out.stays b5
                      have B5 : Below w.heap.size w w5 := B4.trans (b5.mono B4.size)
                      clear HA3 HB3 HJI b5 B4
                      go_wp2_with fail
                      refine Calls.mono (bytea_any HB5.out (by have := bn.out; omega)) ?_
                      rintro e w6 ⟨rfl, b6⟩
                      have HJ6 : Hid (OItems w6 (.slice (some ⟨w2.heap.size, 0, none⟩) (I.length + J.length) (I.length + J.length)) (I ++ J)) := HJ5.out.stays b6
                      have B6 : Below w.heap.size w w6 := B5.trans (b6.mono B5.size)
                      clear HB5 HJ5 b6 B5
                      go_wp2_with fail
                      refine Calls.mono (bytea_any HJ6.out HbK.out) ?_
                      rintro e w7 ⟨rfl, b7⟩
                      have B7 : Below w.heap.size w w7 := B6.trans (b7.mono B6.size)
                      clear HJ6 b7 B6
                      by_cases e0 : I = []
                      · have HT : Hid (text (I ++ J) = text J) := by rw [e0]; rfl
                        have l0 : ((I.length : Int) == 0) = true := by rw [e0]; rfl
                        clear e0
                        generalize text I = tA at *
                        generalize text J = tB at *
                        generalize text (I ++ J) = tJ at *
                        go_wp2_with fail
                        go_ret
                        exact ⟨ret_true (by rw [HT.out]; simp), B7⟩
                      · have hI0 : I.length ≠ 0 := fun h => e0 (List.length_eq_zero_iff.1 h)
                        have l0 : ((I.length : Int) == 0) = false := by simp [e0]
                        by_cases e1 : J = []
                        · have HT : Hid (text (I ++ J) = text I) := by rw [e1, List.append_nil]; rfl
                          have l1 : ((J.length : Int) == 0) = true := by rw [e1]; rfl
                          clear e0 e1
                          generalize text I = tA at *
                          generalize text J = tB at *
                          generalize text (I ++ J) = tJ at *
                          go_wp2_with fail
                          go_ret
                          exact ⟨ret_true (by rw [HT.out]; simp), B7⟩
                        · have l1 : ((J.length : Int) == 0) = false := by simp [e1]
                          have HT : Hid (text (I ++ J) = (text I).take ((text I).length - 1) ++ 44 :: (text J).drop 1) := text_join I J e0 e1
                          have t1 := text_len2 I
                          have t2 := text_len2 J
                          have t3 : (text I).length ≤ 16777216 := by have := text_len I; have := bn.out; omega
                          have t4 : (text J).length ≤ 16777216 := by have := text_len J; have := bn.out; omega
                          clear e0 e1
                          generalize text I = tA at *
                          generalize text J = tB at *
                          generalize text (I ++ J) = tJ at *
                          obtain ⟨X, hX⟩ : ∃ X, X = tA.take (tA.length - 1) := ⟨_, rfl⟩
                          obtain ⟨Y, hY⟩ : ∃ Y, Y = tB.drop 1 := ⟨_, rfl⟩
                          have hs1 : ∀ wx : World, (Instr.slice 9 (.string ⟨tA.toArray⟩) none (some (.int .i64 ((tA.length : Int) - 1))) none).run Try.prog wx = .ok (.string ⟨X.toArray⟩) wx := by
                            intro wx; rw [hX]; exact cut_last tA t1 wx
                          have hs2 : ∀ wx : World, (Instr.slice 9 (.string ⟨tB.toArray⟩) (some (.int .i64 1)) none none).run Try.prog wx = .ok (.string ⟨Y.toArray⟩) wx := by
                            intro wx; rw [hY]; exact cut_first tB t2 wx
                          have lX : X.length ≤ 16777216 := by rw [hX, List.length_take]; omega
                          have lY : Y.length ≤ 16777216 := by rw [hY, List.length_drop]; omega
                          have hwr : IntKind.i64.wrap ((tA.length : Int) - 1) = (tA.length : Int) - 1 := by rw [IntKind.wrap_i64]; omega
                          have HT2 : Hid (tJ = X ++ 44 :: Y) := by rw [Hid, HT.out, hX, hY]
                          clear hX hY HT
                          go_wp2_with fail
                          go_quiet (fail)
                          go_wp2_with fail
                          go_ret
                          refine ⟨ret_true ?_, below_drewN B7 _⟩
                          have h2 := HT2.out
                          subst h2
                          simp [ByteArray.toList_eq]
            · go_wp2_with fail
              go_ret
              exact ⟨rfl, Below.refl _ _⟩
          · go_wp2_with fail
            go_ret
            exact ⟨rfl, Below.refl _ _⟩
        · go_wp2_with fail
          go_ret
          exact ⟨rfl, Below.refl _ _⟩
      · go_wp2_with fail
        go_ret
        exact ⟨rfl, Below.refl _ _⟩
    · go_wp2_with fail
      go_ret
      exact ⟨rfl, Below.refl _ _⟩
end Go.Proofs.Qxb6001793a
