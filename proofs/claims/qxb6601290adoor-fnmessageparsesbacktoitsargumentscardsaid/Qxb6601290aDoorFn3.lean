/-
  THE ROW AND THE TIED CARD OF FnMessageParsesBackToItsArguments.
-/
import Derived.Test.Qxb6601290aDoorLaid
import Derived.Test.Qxb6601290aDoorWalk3
import Derived.Test.Qxb6601290aDoorCards
import Derived.SevenTiedAt
namespace Go.Proofs.Qxb6601290aDoor
open Go.ChangeShapes Go.WideShapes Go.ChangeAt Go.RowKit
open Go.ChangeMaps (open_string shut_string)

/-- The walk at every input that can be read. -/
theorem fn3_walk (n : Int) (nonce : ByteArray) (v : Value) (W : World) (wn : (Lit.int .i64 n).wf = true) (ws : nonce.size ≤ maxLen)
    (hp : v = .pointer none ∨ ∃ b off s, v = .pointer (some ⟨b, off, none⟩) ∧ W.cell? ⟨b, off, none⟩ = some (.string s) ∧ s.size ≤ maxLen)
    (htab : Lib.TabIs Tryd.prog W Tryd.powN .u64 Lib.pow10Tab) :
    Calls Tryd.prog 3 #[.int .i64 n, .string nonce, v] W fun e w' => e = .returned (.bool true) ∧ Below W.heap.size W w' := by
  obtain ⟨n0, n1⟩ : -9223372036854775808 ≤ n ∧ n ≤ 9223372036854775807 := by
    exact bounds_i64 wn
  rcases hp with rfl | ⟨b, off, s, rfl, hcell, hs⟩
  · by_cases h : (nonce.size : Int) ≤ 1048576
    · exact fn3_nil n nonce W n0 n1 h htab
    · exact fn3_nil_big n nonce W h
  · by_cases h : (nonce.size : Int) + s.size ≤ 1048576
    · exact fn3_ptr n nonce b off s W n0 n1 h hcell htab
    · exact fn3_ptr_big n nonce b off s W ws hs hcell h

set_option maxRecDepth 100000 in
theorem fn3_lifted (os : Os) (started : os.Started) (H : Type) (enc : TypeId × Value → H) :
    ReturnsInHanded {} Tryd.checked os 3 .any (fun w args => (Rows.fnMessageParsesBackToItsArgumentsSpec.pre enc Tryd.prog Tryd.f3 [] false w args ∧ laidMetH Tryd.prog laid3 w) ∧ sizedMet enc Tryd.prog Tryd.f3 (OpenSpec.ofChange Rows.fnMessageParsesBackToItsArgumentsSpec) false w args)
      (Rows.fnMessageParsesBackToItsArgumentsSpec.post enc Tryd.prog Tryd.f3 false true false false) := by
  refine returnsInHanded_of_change_and (C := Tryd.checked) (X := fun w _ => laidMetH Tryd.prog laid3 w) (fun _ _ _ hh h => h.of_heap hh) own started (by kernel_rfl) Tryd.func3
    (ChangeSpec.witness_shaped (enc := enc) (C := Tryd.checked) (os := os) (X := fun w _ => laidMetH Tryd.prog laid3 w) false (World.doorLaid Tryd.prog 24 os) #[.int .i64 0, .string ByteArray.empty, .pointer none] 8 rfl (World.shaped_of_RefB (by kernel_rfl) (by kernel_rfl)) (by kernel_rfl) (by kernel_rfl) (by kernel_rfl) (door_met os _)) ?_
  intro W base args ds gs before hval0 hW _ _ hL _
  have hval : ∀ (j : Nat) t v, Tryd.f3.params[j]? = some t → args[j]? = some v → Value.okWide Tryd.prog W .any base t v := hval0
  have hW' := hW
  obtain ⟨p, q, hA0, hV, rfl, hfz, hnd⟩ := hW
  have hA : DataW.TrodAll enc Tryd.prog W 0 (fun _ => true) true Tryd.f3.params.toList args.toList ds p := hA0
  rw [Tryd.params3] at hA hval
  obtain ⟨v0, vs0, d0, ds0, p0, q0, hargs, rfl, rfl, h0, r0⟩ := trodAll_cons hA
  obtain ⟨v1, vs1, d1, ds1, p1, q1, rfl, rfl, rfl, h1, r1⟩ := trodAll_cons r0
  obtain ⟨v2, vs2, d2, ds2, p2, q2, rfl, rfl, rfl, h2, r2⟩ := trodAll_cons r1
  obtain ⟨rfl, rfl, rfl⟩ := trodAll_nil r2
  obtain rfl : args = #[v0, v1, v2] := by cases args; simp_all
  obtain ⟨rfl, rfl⟩ := trodVars_none hV
  obtain ⟨n, rfl, rfl, rfl, wn⟩ := open_int Tryd.underlying2 (hval 0 2 v0 rfl rfl) h0
  obtain ⟨nonce, rfl, rfl, rfl, ws⟩ := open_string Tryd.underlying9 (hval 1 9 v1 rfl rfl) h1
  have hp := open_sptr (hval 2 22 v2 rfl rfl) h2
  have k2 := h2
  have lt2 : ∀ x ∈ p2, x.block < W.heap.size := by obtain ⟨m, hm⟩ := k2; exact DataW.trod_lt m _ _ _ hm
  clear hA0 hval0
  refine (fn3_walk n nonce v2 W wn ws hp (pow_of_laid hL)).mono fun e W' ⟨he, bel⟩ => ?_
  subst he
  exact ⟨_, rfl, _, _, _, [], _, [], hW', trodAll_mk1 (shut_bool Tryd.underlying4 _), (trodAll_cons_mk (shut_int Tryd.underlying2 wn) (trodAll_cons_mk (shut_string Tryd.underlying9 ws) (trodAll_cons_mk (Below.trod laidOut (by kernel_rfl) (of_decide_eq_true (by kernel_rfl)) k2 bel lt2) trodAll_mk0))), rfl, bel.frame _, fun h => by cases h⟩

theorem fn3_row : Rows.FnMessageParsesBackToItsArgumentsSaid :=
  OpenClaim.holds_of_wide 3 Tryd.f3 rfl rfl rfl rfl rfl rfl rfl ⟨rfl, rfl, rfl, rfl, rfl⟩ rfl rfl rfl rfl rfl (by kernel_rfl) Tryd.func3 (by kernel_rfl)
    (of_decide_eq_true (by kernel_rfl)) (by unfold Func.isWrapper; first | (rw [if_pos (by decide +kernel)]; kernel_rfl) | (rw [if_neg (by decide +kernel)]; exact ⟨rfl, rfl⟩))
    (fun os started H enc _ => fn3_lifted os started H enc)

/-- ████ THE STATEMENT: THE TIED CARD ████ -/
theorem fn3_card : Rows.FnMessageParsesBackToItsArgumentsCardSaid :=
  Claim7.holds_tied_plain_at .later [] [.data, .data, .data] true _ false
    fn3_row (fun _ h => by cases h) (by kernel_rfl) (fun _ h => by cases h) fnMessageParsesBackToItsArguments_row_tie rfl ⟨rfl, rfl⟩ (by kernel_rfl) rfl
    (fun f fn hf hfn => by
      obtain rfl : f = 3 := Option.some.inj ((show Tryd.prog.funcNamed Rows.fnMessageParsesBackToItsArgumentsRow.func = some 3 by kernel_rfl).symm.trans hf) |>.symm
      obtain rfl : fn = Tryd.f3 := (Option.some.inj (Tryd.func3.symm.trans hfn)).symm
      exact ⟨by kernel_rfl, fun j t ht => by
        rw [Tryd.params3] at ht
        have hm : t ∈ [2, 9, 22] := by simpa using Array.mem_of_getElem? ht
        have hall : ([2, 9, 22].all fun u => !Tryd.prog.wantsStandIn u) = true := by kernel_rfl
        exact (show Tryd.prog.wantsStandIn t = false by simpa using List.all_eq_true.1 hall t hm)⟩)
    (by kernel_rfl)
end Go.Proofs.Qxb6601290aDoor
