/-
  THE PROOF OF FnHeldWithinSplicesCondAtOneFixedPlaceSaid (the kit's shell; its frame turned to 'Below').
-/
import Derived.Test.Qxb6001653aRows
import Derived.Test.Qxb6001653aSplice
import Derived.WalkKit
import Derived.ProofKit
import Derived.OpenShut
import Derived.ShutString
namespace Go.Proofs.Qxb6001653a.fnHeldWithinSplicesCondAtOneFixedPlace
open Go.ChangeShapes Go.WideShapes Go.ChangeAt Go.RowKit
open Go.ChangeMaps (open_string shut_string)
set_option linter.unusedVariables false      -- a walk need not use every 'w<i>' (that an integer argument fits its kind)

theorem own : ownKnob Try.prog.godebug = none := by kernel_rfl

/-! ### The text that heldWithin writes, byte by byte -/
theorem preL_len : preL.length = 277 := by kernel_rfl
theorem postL_len : postL.length = 65 := by kernel_rfl
theorem part1 (A C B : List UInt8) (i : Nat) (h : i < (A ++ C ++ B).length) (hi : i < A.length) : (A ++ C ++ B)[i]'h = A[i]'hi := by
  rw [List.getElem_append_left (by rw [List.length_append]; omega), List.getElem_append_left]
theorem part2 (A C B : List UInt8) (n i : Nat) (hn : A.length = n) (h : n + i < (A ++ C ++ B).length) (hi : i < C.length) : (A ++ C ++ B)[n + i]'h = C[i]'hi := by
  subst hn
  rw [List.getElem_append_left (by rw [List.length_append]; omega), List.getElem_append_right (by omega)]
  simp only [Nat.add_sub_cancel_left]
theorem part3 (A C B : List UInt8) (n i : Nat) (hn : A.length = n) (h : C.length + i < (A ++ C ++ B).length) (hi : n ≤ i) (hi2 : i - n < B.length) : (A ++ C ++ B)[C.length + i]'h = B[i - n]'hi2 := by
  subst hn
  rw [List.getElem_append_right (by rw [List.length_append]; omega)]
  have e : C.length + i - (A ++ C).length = i - A.length := by rw [List.length_append]; omega
  simp only [e]
theorem held_size (c : ByteArray) : (held c).size = 342 + c.size := by
  have h : c.data.toList.length = c.size := rfl
  have e : (held c).size = (preL ++ c.data.toList ++ postL).length := rfl
  rw [e, List.length_append, List.length_append, preL_len, postL_len]; omega
theorem held_pre (c : ByteArray) (i : Nat) (h : i < (held c).size) (hi : i < 277) : (held c)[i]'h = preL[i]'(by rw [preL_len]; exact hi) :=
  part1 preL c.data.toList postL i h (by rw [preL_len]; exact hi)
theorem held_mid' (c : ByteArray) (n i : Nat) (hn : preL.length = n) (h : n + i < (held c).size) (hi : i < c.size) : (held c)[n + i]'h = c[i]'hi :=
  part2 preL c.data.toList postL n i hn h hi
theorem held_post (c : ByteArray) (i : Nat) (h : c.size + i < (held c).size) (hi : 277 ≤ i) (hi2 : i - 277 < 65) : (held c)[c.size + i]'h = postL[i - 277]'(by rw [postL_len]; exact hi2) :=
  part3 preL c.data.toList postL 277 i preL_len h hi (by rw [postL_len]; exact hi2)

/-- Behind the first fixed part the text is spliced. -/
theorem splicedN (c : ByteArray) (n : Nat) (hn : preL.length = n) : Spliced (held c) (held ⟨#[]⟩) c n := by
  have h0 : (⟨#[]⟩ : ByteArray).size = 0 := rfl
  have h277 : n = 277 := by rw [← hn, preL_len]
  constructor
  · intro i h1 h2 hk
    have h3 := h2
    rw [held_size, h0] at h3
    rw [held_post c i h1 (by omega) (by omega)]
    have e := held_post ⟨#[]⟩ i (by rw [h0, Nat.zero_add]; exact h2) (by omega) (by omega)
    simp only [h0, Nat.zero_add] at e
    rw [e]
  · intro i h1 h2
    exact held_mid' c n i hn h1 h2
theorem spliced277 (c : ByteArray) : Spliced (held c) (held ⟨#[]⟩) c 277 := splicedN c 277 preL_len

theorem spliced_at (h e c : ByteArray) (x : Int) (k : Nat) (w : World) (hx : x = k) (hh : h.size = e.size + c.size) (hk : k ≤ e.size) (he : e.size ≤ 1048576) (hc : c.size ≤ 1048576) :
    Calls Try.prog 8 #[.string h, .string e, .string c, .int .i64 x] w fun en w' => ∃ v : Bool, en = .returned (.bool v) ∧ (Spliced h e c k → v = true) ∧ Below w.heap.size w w' := by
  subst hx
  exact spliced_any h e c k w hh hk he hc

/-! ### STEP 1: THE WALK -/
set_option maxHeartbeats 1000000 in
set_option maxRecDepth 100000 in
theorem walk_ok (a0 : ByteArray) (a1 : ByteArray) (b0 : (a0.size : Int) ≤ 65536) (b1 : (a1.size : Int) ≤ 65536) (w : World) :
    Calls Try.prog 4 #[.string a0, .string a1] w fun e w' => e = .returned (.bool true) ∧ Below w.heap.size w w' := by
  have HE : Hid ((held ⟨#[]⟩).size = 342) := held_size ⟨#[]⟩
  have HA : Hid ((held a0).size = 342 + a0.size) := held_size a0
  have HB : Hid ((held a1).size = 342 + a1.size) := held_size a1
  have SA : Hid (Spliced (held a0) (held ⟨#[]⟩) a0 277) := spliced277 a0
  have SB : Hid (Spliced (held a1) (held ⟨#[]⟩) a1 277) := spliced277 a1
  have PA : Hid (∀ i (h1 : i < (held a0).size) (h2 : i < (held ⟨#[]⟩).size), i < 277 → (held a0)[i]'h1 = (held ⟨#[]⟩)[i]'h2) := fun i h1 h2 hi => by rw [held_pre _ _ _ hi, held_pre _ _ _ hi]
  have PB : Hid (∀ i (h1 : i < (held a1).size) (h2 : i < (held ⟨#[]⟩).size), i < 277 → (held a1)[i]'h1 = (held ⟨#[]⟩)[i]'h2) := fun i h1 h2 hi => by rw [held_pre _ _ _ hi, held_pre _ _ _ hi]
  go_enter Try.func4, Try.ntmps4
  go_wp2_with (go_at_call 7; go_in)
  refine (held6 ⟨#[]⟩ _ (by decide)).mono ?_
  rintro e w' ⟨rfl, rfl⟩
  go_wp2_with fail
  refine (held6 a0 _ (by omega)).mono ?_
  rintro e w' ⟨rfl, rfl⟩
  go_wp2_with fail
  refine (held6 a1 _ (by omega)).mono ?_
  rintro e w' ⟨rfl, rfl⟩
  generalize held ⟨#[]⟩ = E at *
  generalize held a0 = hA at *
  generalize held a1 = hB at *
  have z1 : E.size ≤ 342 := by have := HE.out; omega
  have z1' : 342 ≤ E.size := by have := HE.out; omega
  have n1 : ((hA.size : Int) != (E.size : Int) + a0.size) = false := by have := HE.out; have := HA.out; simp; omega
  have n2 : ((hB.size : Int) != (E.size : Int) + a1.size) = false := by have := HE.out; have := HB.out; simp; omega
  have q1 : decide ((65536 : Int) < a0.size) = false := by simp; omega
  have q2 : decide ((65536 : Int) < a1.size) = false := by simp; omega
  go_wp2_with fail
  go_loopg [8] 277 (fun g i wr => ∃ k : Nat, g + k = 277 ∧ i = .int .i64 k ∧ Below w.heap.size w wr)
  case atStart => exact ⟨0, rfl, rfl, Below.refl _ _⟩
  case round =>
    obtain ⟨k, hg, rfl, hbw⟩ := hrel
    have Hg : Hid (gk + k = 277) := hg
    have hk : k ≤ 277 := by omega
    clear hg
    have hAz : hA.size ≤ 342 + a0.size := by have := HA.out; omega
    have hAz' : 342 + a0.size ≤ hA.size := by have := HA.out; omega
    have hBz : hB.size ≤ 342 + a1.size := by have := HB.out; omega
    have hBz' : 342 + a1.size ≤ hB.size := by have := HB.out; omega
    by_cases hk0 : k = 0
    · have Hk0 : Hid (k = 0) := hk0
      have kk : (k : Int) ≤ 0 := by omega
      clear hk0
      go_wp2_with fail
      refine (spliced_any hA E a0 k _ (by have := HA.out; have := HE.out; omega) (by omega) (by omega) (by omega)).mono ?_
      rintro en W2 ⟨v1, rfl, hv1, b2⟩
      have HV1 : Hid (Spliced hA E a0 k → v1 = true) := hv1
      have c2 : Below w.heap.size w W2 := hbw.trans (b2.mono hbw.size)
      clear hv1 b2
      cases v1 with
      | false =>
        have hne : k ≠ 277 := by
          intro hk2
          have h1 := HV1.out (by rw [hk2]; exact SA.out)
          cases h1
        have Hne : Hid (k ≠ 277) := hne
        clear hne
        go_wp2_with fail
        go_roundg (gk - 1)
        case measure => have := Hg.out; have := Hne.out; omega
        case rel => have := Hg.out; have := Hne.out; exact ⟨k + 1, by omega, by go_num, c2⟩
      | true =>
        go_wp2_with fail
        refine (spliced_any hB E a1 k _ (by have := HB.out; have := HE.out; omega) (by omega) (by omega) (by omega)).mono ?_
        rintro en W3 ⟨v2, rfl, hv2, b3⟩
        have HV2 : Hid (Spliced hB E a1 k → v2 = true) := hv2
        have c3 : Below w.heap.size w W3 := c2.trans (b3.mono c2.size)
        clear hv2 b3
        cases v2 with
        | false =>
          have hne : k ≠ 277 := by
            intro hk2
            have h1 := HV2.out (by rw [hk2]; exact SB.out)
            cases h1
          have Hne : Hid (k ≠ 277) := hne
          clear hne
          go_wp2_with fail
          go_roundg (gk - 1)
          case measure => have := Hg.out; have := Hne.out; omega
          case rel => have := Hg.out; have := Hne.out; exact ⟨k + 1, by omega, by go_num, c3⟩
        | true =>
          go_wp2_with fail
          go_ret
          exact ⟨rfl, c3⟩
    · obtain ⟨q, rfl⟩ : ∃ q, k = q + 1 := ⟨k - 1, by omega⟩
      clear hk0
      have qA : q < hA.size := by omega
      have qB : q < hB.size := by omega
      have qE : q < E.size := by omega
      have iA : (q : Int) < hA.size := by omega
      have iB : (q : Int) < hB.size := by omega
      have iE : (q : Int) < E.size := by omega
      have e1 : ((hA[q].toNat : Int) != (E[q].toNat : Int)) = false := by rw [PA.out q qA qE (by omega)]; simp
      have e2 : ((hB[q].toNat : Int) != (E[q].toNat : Int)) = false := by rw [PB.out q qB qE (by omega)]; simp
      have hwr : IntKind.i64.wrap (((q : Int) + 1) - 1) = (q : Int) := by rw [IntKind.wrap_i64]; omega
      have hwr2 : IntKind.i64.wrap (q : Int) = (q : Int) := by rw [IntKind.wrap_i64]; omega
      go_wp2_with fail
      go_quiet (fail)
      have hbd := below_drewN hbw nq
      go_wp2_with fail
      refine (spliced_at hA E a0 _ (q + 1) _ (by go_num) (by have := HA.out; have := HE.out; omega) (by omega) (by omega) (by omega)).mono ?_
      rintro en W2 ⟨v1, rfl, hv1, b2⟩
      have HV1 : Hid (Spliced hA E a0 (q + 1) → v1 = true) := hv1
      have c2 : Below w.heap.size w W2 := hbd.trans (b2.mono hbd.size)
      clear hv1 b2
      cases v1 with
      | false =>
        have hne : q + 1 ≠ 277 := by
          intro hk2
          have h1 := HV1.out (by rw [hk2]; exact SA.out)
          cases h1
        have Hne : Hid (q + 1 ≠ 277) := hne
        clear hne
        go_wp2_with fail
        go_roundg (gk - 1)
        case measure => have := Hg.out; have := Hne.out; omega
        case rel => have := Hg.out; have := Hne.out; exact ⟨q + 1 + 1, by omega, by go_num, c2⟩
      | true =>
        go_wp2_with fail
        refine (spliced_at hB E a1 _ (q + 1) _ (by go_num) (by have := HB.out; have := HE.out; omega) (by omega) (by omega) (by omega)).mono ?_
        rintro en W3 ⟨v2, rfl, hv2, b3⟩
        have HV2 : Hid (Spliced hB E a1 (q + 1) → v2 = true) := hv2
        have c3 : Below w.heap.size w W3 := c2.trans (b3.mono c2.size)
        clear hv2 b3
        cases v2 with
        | false =>
          have hne : q + 1 ≠ 277 := by
            intro hk2
            have h1 := HV2.out (by rw [hk2]; exact SB.out)
            cases h1
          have Hne : Hid (q + 1 ≠ 277) := hne
          clear hne
          go_wp2_with fail
          go_roundg (gk - 1)
          case measure => have := Hg.out; have := Hne.out; omega
          case rel => have := Hg.out; have := Hne.out; exact ⟨q + 1 + 1, by omega, by go_num, c3⟩
        | true =>
          go_wp2_with fail
          go_ret
          exact ⟨rfl, c3⟩

set_option maxHeartbeats 1000000 in
set_option maxRecDepth 100000 in
theorem walk (a0 : ByteArray) (a1 : ByteArray) (w0 : a0.size ≤ maxLen) (w1 : a1.size ≤ maxLen) (w : World) :
    Calls Try.prog 4 #[.string a0, .string a1] w fun e w' => e = .returned (.bool true) ∧ Below w.heap.size w w' := by
  unfold maxLen at w0 w1
  by_cases hb0 : (a0.size : Int) ≤ 65536
  · by_cases hb1 : (a1.size : Int) ≤ 65536
    · exact walk_ok a0 a1 hb0 hb1 w
    · by_cases h2 : (a1.size : Int) ≤ 1048576
      · by_cases h3 : (a0.size : Int) + a1.size ≤ 1048576
        all_goals
          go_enter Try.func4, Try.ntmps4
          go_wp2
          go_ret
          exact ⟨rfl, Below.refl _ _⟩
      · go_enter Try.func4, Try.ntmps4
        go_wp2
        go_ret
        exact ⟨rfl, Below.refl _ _⟩
  · by_cases h1 : (a0.size : Int) ≤ 1048576
    · by_cases h2 : (a1.size : Int) ≤ 1048576
      · by_cases h3 : (a0.size : Int) + a1.size ≤ 1048576
        all_goals
          go_enter Try.func4, Try.ntmps4
          go_wp2
          go_ret
          exact ⟨rfl, Below.refl _ _⟩
      · go_enter Try.func4, Try.ntmps4
        go_wp2
        go_ret
        exact ⟨rfl, Below.refl _ _⟩
    · go_enter Try.func4, Try.ntmps4
      go_wp2
      go_ret
      exact ⟨rfl, Below.refl _ _⟩

/-! ### THE ROW's STEP: WRITTEN OUT: LEAVE IT -/
set_option maxRecDepth 100000 in
theorem lifted (os : Os) (started : os.Started) (H : Type) (enc : TypeId × Value → H) :
    ReturnsInHanded {} Try.checked os 4 .any (Rows.fnHeldWithinSplicesCondAtOneFixedPlaceSpec.pre6 enc Try.prog Try.f4 Rows.fnHeldWithinSplicesCondAtOneFixedPlaceRow.domain false) (Rows.fnHeldWithinSplicesCondAtOneFixedPlaceSpec.post enc Try.prog Try.f4 false true false false) := by
  refine returnsInHanded_of_change (C := Try.checked) own started (by kernel_rfl) Try.func4
    (ChangeSpec.witness6 (enc := enc) (C := Try.checked) false ⟨#[], #[.string ByteArray.empty, .string ByteArray.empty], []⟩ 8 (by kernel_rfl) (by kernel_rfl) (by kernel_rfl) (by kernel_rfl)) ?_
  intro W base args ds gs before hval0 hW hcnd _
  have hval : ∀ (j : Nat) t v, Try.f4.params[j]? = some t → args[j]? = some v → Value.okWide Try.prog W .any base t v := hval0
  have hW' := hW
  obtain ⟨p, q, hA0, hV, rfl, hfz, hnd⟩ := hW
  have hA : DataW.TrodAll enc Try.prog W 0 (fun _ => true) true Try.f4.params.toList args.toList ds p := hA0
  rw [Try.params4] at hA hval
  obtain ⟨v0, vs0, d0, ds0, p0, q0, hargs, rfl, rfl, h0, r0⟩ := trodAll_cons hA
  obtain ⟨v1, vs1, d1, ds1, p1, q1, rfl, rfl, rfl, h1, r1⟩ := trodAll_cons r0
  obtain ⟨rfl, rfl, rfl⟩ := trodAll_nil r1
  obtain rfl : args = #[v0, v1] := by cases args; simp_all
  obtain ⟨rfl, rfl⟩ := trodVars_none hV
  obtain ⟨a0, rfl, rfl, rfl, w0⟩ := open_string Try.underlying9 (hval 0 9 v0 rfl rfl) h0
  obtain ⟨a1, rfl, rfl, rfl, w1⟩ := open_string Try.underlying9 (hval 1 9 v1 rfl rfl) h1
  clear hA0 hval0
  simp only [List.append_nil] at hW'
  refine (walk a0 a1 w0 w1 W).mono fun e W' ⟨he, bel⟩ => ?_
  subst he
  exact ⟨_, rfl, _, _, _, [], _, [], hW', trodAll_mk1 (shut_bool Try.underlying4 _), (trodAll_cons_mk (shut_string Try.underlying9 w0) (trodAll_cons_mk (shut_string Try.underlying9 w1) trodAll_mk0)), rfl, bel.frame _, fun h => by cases h⟩

theorem over : Rows.fnHeldWithinSplicesCondAtOneFixedPlaceRow.holds Try.pinned (OpenSpec.ofChange Rows.fnHeldWithinSplicesCondAtOneFixedPlaceSpec) :=
  OpenClaim.holds_of_wide 4 Try.f4 rfl rfl rfl rfl rfl rfl rfl ⟨rfl, rfl, rfl, rfl, rfl⟩ rfl rfl rfl rfl rfl (by kernel_rfl) Try.func4 (by kernel_rfl)
    (of_decide_eq_true (by kernel_rfl)) (by unfold Func.isWrapper; first | (rw [if_pos (by decide +kernel)]; kernel_rfl) | (rw [if_neg (by decide +kernel)]; exact ⟨rfl, rfl⟩))
    (fun os started H enc _ => lifted os started H enc)

/-- ████ THE STATEMENT ████ -/
theorem proved : Rows.FnHeldWithinSplicesCondAtOneFixedPlaceSaid :=
  over
end Go.Proofs.Qxb6001653a.fnHeldWithinSplicesCondAtOneFixedPlace
