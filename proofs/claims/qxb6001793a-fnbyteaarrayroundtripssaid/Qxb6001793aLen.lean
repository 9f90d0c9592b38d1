/-
  THE WALK OF FnByteaArrayLengthAndAlphabet.
-/
import Derived.Test.Qxb6001793aBytea
namespace Go.Proofs.Qxb6001793a
open Go.RowKit

/-- The bytes that the text may hold, as the law asks it. -/
def okByte (c : Int) : Prop := c = 123 ∨ c = 125 ∨ c = 44 ∨ c = 34 ∨ c = 92 ∨ c = 120 ∨ (48 ≤ c ∧ c ≤ 57) ∨ (97 ≤ c ∧ c ≤ 102)

theorem digit_ok (n : Nat) (h : n < 16) : okByte ((Lib.Hx.digit n).toNat : Int) := by
  have all : ∀ m : Fin 16, (48 ≤ (Lib.Hx.digit m.1).toNat ∧ (Lib.Hx.digit m.1).toNat ≤ 57) ∨ (97 ≤ (Lib.Hx.digit m.1).toNat ∧ (Lib.Hx.digit m.1).toNat ≤ 102) := by decide
  have := all ⟨n, h⟩
  simp only at this
  unfold okByte
  omega
theorem encode_ok (l : List UInt8) : ∀ c ∈ Lib.Hx.encode l, okByte (c.toNat : Int) := by
  intro c hc
  obtain ⟨b, _, hb⟩ := List.mem_flatMap.1 hc
  have hlt := b.toNat_lt
  simp only [List.mem_cons, List.not_mem_nil, or_false] at hb
  rcases hb with rfl | rfl
  · exact digit_ok _ (by omega)
  · exact digit_ok _ (by omega)
theorem elem_ok (l : List UInt8) : ∀ c ∈ elem l, okByte (c.toNat : Int) := by
  intro c hc
  unfold elem at hc
  rcases List.mem_append.1 hc with hc | hc
  · rcases List.mem_append.1 hc with hc | hc
    · simp only [List.mem_cons, List.not_mem_nil, or_false] at hc
      rcases hc with rfl | rfl | rfl | rfl <;> unfold okByte <;> decide
    · exact encode_ok l c hc
  · simp only [List.mem_cons, List.not_mem_nil, or_false] at hc
    subst hc; unfold okByte; decide
theorem body_ok (I : List (List UInt8)) : ∀ c ∈ body I, okByte (c.toNat : Int) := by
  induction I with
  | nil => intro c hc; cases hc
  | cons l r ih =>
    cases r with
    | nil => exact elem_ok l
    | cons x r =>
      intro c hc
      rw [body_more] at hc
      rcases List.mem_append.1 hc with hc | hc
      · exact elem_ok l c hc
      · rcases List.mem_cons.1 hc with rfl | hc
        · unfold okByte; decide
        · exact ih c hc
theorem text_ok (I : List (List UInt8)) : ∀ c ∈ text I, okByte (c.toNat : Int) := by
  intro c hc
  rcases List.mem_cons.1 hc with rfl | hc
  · unfold okByte; decide
  · rcases List.mem_append.1 hc with hc | hc
    · exact body_ok I c hc
    · simp only [List.mem_cons, List.not_mem_nil, or_false] at hc
      subst hc; unfold okByte; decide

/-- The length that the law reckons. -/
def want (I : List (List UInt8)) (k : Nat) : Nat := 2 + 2 * bytesOf (I.take k) + 5 * k
theorem want_succ (I : List (List UInt8)) (k : Nat) (hk : k < I.length) : want I (k + 1) = want I k + (2 * I[k].length + 5) := by
  unfold want
  rw [List.take_succ_eq_append_getElem hk]
  unfold bytesOf
  rw [List.map_append, List.sum_append]
  simp only [List.map_cons, List.map_nil, List.sum_cons, List.sum_nil]
  omega
theorem want_le (I : List (List UInt8)) (k : Nat) (hk : k ≤ I.length) (hb : 24 * I.length + bytesOf I ≤ 1048576) : want I k ≤ 4194304 := by
  have := bytesOf_take I k
  unfold want; omega
theorem text_want (I : List (List UInt8)) : (text I).length = want I I.length + (if 1 < I.length then I.length - 1 else 0) := by
  have h := body_len I
  have e : (text I).length = (body I).length + 2 := by simp [text]
  rw [e]
  unfold want
  rw [List.take_length]
  by_cases h0 : I = []
  · subst h0; simp [bytesOf, body]
  · have hl : I.length ≠ 0 := fun hh => h0 (List.length_eq_zero_iff.1 hh)
    rw [if_neg h0] at h
    split <;> omega
theorem text_first (I : List (List UInt8)) (h : 0 < (text I).length) : (text I)[0] = 123 := rfl
theorem text_last (I : List (List UInt8)) (n : Nat) (hn : n + 1 = (text I).length) (h : n < (text I).length) : (text I)[n] = 125 := by
  have e : (text I) = (123 :: body I) ++ [125] := by simp [text]
  have hl : (text I).length = (123 :: body I).length + 1 := by rw [e]; simp
  have hn2 : n = (123 :: body I).length := by omega
  subst hn2
  simp only [e]
  rw [List.getElem_append_right (Nat.le_refl _)]
  simp
theorem item_len {w : World} {x : Value} {l : List UInt8} (h : OItem w x l) : ∃ xa xc, x = .slice xa l.length xc := by
  rcases h with ⟨rfl, rfl⟩ | ⟨b2, c2, h1, _⟩
  · exact ⟨none, 0, rfl⟩
  · exact ⟨_, _, h1⟩

theorem text_len (I : List (List UInt8)) : (text I).length ≤ 2 + 2 * bytesOf I + 6 * I.length := by
  have := body_len I
  simp only [text, List.length_cons, List.length_append, List.length_nil]
  omega
/-- The text as a string. -/
theorem textS (I : List (List UInt8)) : (⟨(text I).toArray⟩ : ByteArray).size = (text I).length ∧ 2 ≤ (⟨(text I).toArray⟩ : ByteArray).size ∧ (⟨(text I).toArray⟩ : ByteArray).size ≤ 2 + 2 * bytesOf I + 6 * I.length ∧
    (∀ h, (((⟨(text I).toArray⟩ : ByteArray)[0]'h).toNat : Int) = 123) ∧ (∀ h, (((⟨(text I).toArray⟩ : ByteArray)[(⟨(text I).toArray⟩ : ByteArray).size - 1]'h).toNat : Int) = 125) ∧
    (∀ k (h : k < (⟨(text I).toArray⟩ : ByteArray).size), okByte (((⟨(text I).toArray⟩ : ByteArray)[k]'h).toNat : Int)) := by
  have e : (⟨(text I).toArray⟩ : ByteArray).size = (text I).length := by simp [ByteArray.size]
  have h2 : 2 ≤ (text I).length := by simp [text]
  refine ⟨e, by omega, by rw [e]; exact text_len I, fun h => ?_, fun h => ?_, fun k h => ?_⟩
  · have : (⟨(text I).toArray⟩ : ByteArray)[0]'h = (text I)[0]'(by omega) := rfl
    rw [this, text_first]; rfl
  · have h3 : (⟨(text I).toArray⟩ : ByteArray).size - 1 < (text I).length := by omega
    have : (⟨(text I).toArray⟩ : ByteArray)[(⟨(text I).toArray⟩ : ByteArray).size - 1]'h = (text I)[(⟨(text I).toArray⟩ : ByteArray).size - 1]'h3 := rfl
    rw [this, text_last I _ (by omega) h3]; rfl
  · have : (⟨(text I).toArray⟩ : ByteArray)[k]'h = (text I)[k]'(by omega) := rfl
    rw [this]
    exact text_ok I _ (List.getElem_mem _)

set_option maxHeartbeats 2000000 in
set_option maxRecDepth 100000 in
theorem fn7_walk (v0 : Value) (I : List (List UInt8)) (w : World) (h0 : ArgIs w v0 I) :
    Calls Try.prog 7 #[v0] w fun e w' => e = .returned (.bool true) ∧ Below w.heap.size w w' := by
  have Z18 : Hid (Calls Try.prog 18 #[v0] w (SomeBool w)) := zz18_arg h0
  have C0 : Hid (Calls Try.prog 12 #[v0] w (Counted w (24 * I.length + bytesOf I))) := items_arg h0
  have H0 : Hid (ArgIs w v0 I) := h0
  obtain ⟨a0, c0, hv0, n0⟩ := h0.shape
  subst hv0
  clear h0
  go_enter Try.func7, Try.ntmps7
  go_wp2_with fail
  refine Calls.mono Z18.out ?_
  rintro e w' ⟨b, rfl, rfl⟩
  cases b with
  | false =>
    go_wp2_with fail
    go_ret
    exact ⟨rfl, Below.refl _ _⟩
  | true =>
    by_cases q0 : (I.length : Int) ≤ 65536
    · go_wp2_with fail
      refine Calls.mono C0.out ?_
      rintro e w' ⟨m0, rfl, hm0, hm0a, hm0b, rfl⟩
      by_cases r0 : m0 ≤ 1048576
      · have bn : Hid (24 * I.length + bytesOf I ≤ 1048576) := by have e0 := hm0 r0; rw [Hid]; omega
        clear hm0
        go_wp2_with fail
        refine Calls.mono (clone_arg H0.out bn.out) ?_
        rintro e w1 ⟨va, rfl, hoa, b1⟩
        obtain ⟨aa, ca, hva, hca⟩ := hoa
        subst hva
        have HA : Hid (OItems w1 (.slice aa I.length ca) I) := ⟨aa, ca, rfl, hca⟩
        clear hca
        go_wp2_with fail
        go_loopg [3, 4] I.length (fun g z i wr => ∃ k : Nat, g + k = I.length ∧ k ≤ I.length ∧ i = .int .i64 k ∧ z = .int .i64 (want I k) ∧ w1 = wr)
        case atStart => exact ⟨0, rfl, Nat.zero_le _, rfl, rfl, rfl⟩
        case round =>
          obtain ⟨k, hg, hk, rfl, rfl, rfl⟩ := hrel
          have Hg : Hid (gk + k = I.length) := hg
          have hw := want_le I k hk bn.out
          clear hg
          by_cases hlt : k < I.length
          · have hne : I ≠ [] := by intro h; rw [h] at hlt; simp at hlt
            obtain ⟨aa', ca', hsh, hcl⟩ := HA.out
            cases hsh
            obtain ⟨b, ha, hr⟩ := hcl hne
            subst ha
            obtain ⟨x, hx, hox⟩ := hr k hlt
            obtain ⟨xa, xc, hxs⟩ := item_len hox
            subst hxs
            have hw2 := want_le I (k + 1) hlt bn.out
            have HW : Hid (want I (k + 1) = want I k + (2 * I[k].length + 5)) := want_succ I k hlt
            have hl1 := bytesOf_one I k hlt
            have hl2 : I[k].length ≤ 1048576 := by have := bn.out; omega
            clear hr hcl hox hne hw2
            generalize I[k].length = L at *
            generalize want I k = W0 at *
            go_wp2_with fail
            go_roundg (gk - 1)
            case measure => have := Hg.out; omega
            case rel => have := Hg.out; exact ⟨k + 1, by omega, by omega, by go_num, by rw [HW.out]; go_num, rfl⟩
          · obtain rfl : k = I.length := by omega
            have HTW : Hid ((text I).length = want I I.length + (if 1 < I.length then I.length - 1 else 0)) := text_want I
            clear Hg hk hlt
            have htl := text_len I
            generalize want I I.length = W0 at *
            by_cases h1 : (1 : Int) < I.length
            · have HTW : Hid ((text I).length = W0 + (I.length - 1)) := by have := HTW.out; rw [if_pos (by omega)] at this; exact this
              go_wp2_with fail
              refine Calls.mono (bytea_any HA.out bn.out) ?_
              rintro e w5 ⟨rfl, b5⟩
              have B5 : Below w.heap.size w w5 := b1.trans (b5.mono b1.size)
              have HF := textS I
              generalize (⟨(text I).toArray⟩ : ByteArray) = S at *
              obtain ⟨hs, hs2, hsb, f0, f1, hall⟩ := HF
              have HAll : Hid (∀ k (h : k < S.size), okByte ((S[k]'h).toNat : Int)) := hall
              have z0 : 0 < S.size := by omega
              have z1 : S.size - 1 < S.size := by omega
              have g0 : ((S[0]'z0).toNat : Int) = 123 := f0 z0
              have g1 : ((S[S.size - 1]'z1).toNat : Int) = 125 := f1 z1
              have hsb2 : S.size ≤ 16777216 := by have := bn.out; omega
              have nW : ((S.size : Int) != (W0 : Int) + ((I.length : Int) - 1)) = false := by have := HTW.out; simp; omega
              clear hs hsb f0 f1 hall b5
              go_wp2_with fail
              go_loopg [6] S.size (fun g i wr => ∃ k : Nat, g + k = S.size ∧ k ≤ S.size ∧ i = .int .i64 k ∧ w5 = wr)
              case atStart => exact ⟨0, rfl, Nat.zero_le _, rfl, rfl⟩
              case round =>
                obtain ⟨k, hg, hk, rfl, rfl⟩ := hrel
                have Hg : Hid (gk + k = S.size) := hg
                clear hg
                by_cases hlt : k < S.size
                · have ho := HAll.out k hlt
                  unfold okByte at ho
                  rcases ho with ho | ho | ho | ho | ho | ho | ⟨ho, ho2⟩ | ⟨ho, ho2⟩
                  all_goals
                    go_wp2_with fail
                    go_roundg (gk - 1)
                    case measure => have := Hg.out; omega
                    case rel => have := Hg.out; exact ⟨k + 1, by omega, by omega, by go_num, rfl⟩
                · go_wp2_with fail
                  go_ret
                  exact ⟨rfl, B5⟩
            · have HTW : Hid ((text I).length = W0) := by have := HTW.out; rw [if_neg (by omega)] at this; exact this
              go_wp2_with fail
              refine Calls.mono (bytea_any HA.out bn.out) ?_
              rintro e w5 ⟨rfl, b5⟩
              have B5 : Below w.heap.size w w5 := b1.trans (b5.mono b1.size)
              have HF := textS I
              generalize (⟨(text I).toArray⟩ : ByteArray) = S at *
              obtain ⟨hs, hs2, hsb, f0, f1, hall⟩ := HF
              have HAll : Hid (∀ k (h : k < S.size), okByte ((S[k]'h).toNat : Int)) := hall
              have z0 : 0 < S.size := by omega
              have z1 : S.size - 1 < S.size := by omega
              have g0 : ((S[0]'z0).toNat : Int) = 123 := f0 z0
              have g1 : ((S[S.size - 1]'z1).toNat : Int) = 125 := f1 z1
              have hsb2 : S.size ≤ 16777216 := by have := bn.out; omega
              have nW : ((S.size : Int) != (W0 : Int)) = false := by have := HTW.out; simp; omega
              clear hs hsb f0 f1 hall b5
              go_wp2_with fail
              go_loopg [6] S.size (fun g i wr => ∃ k : Nat, g + k = S.size ∧ k ≤ S.size ∧ i = .int .i64 k ∧ w5 = wr)
              case atStart => exact ⟨0, rfl, Nat.zero_le _, rfl, rfl⟩
              case round =>
                obtain ⟨k, hg, hk, rfl, rfl⟩ := hrel
                have Hg : Hid (gk + k = S.size) := hg
                clear hg
                by_cases hlt : k < S.size
                · have ho := HAll.out k hlt
                  unfold okByte at ho
                  rcases ho with ho | ho | ho | ho | ho | ho | ⟨ho, ho2⟩ | ⟨ho, ho2⟩
                  all_goals
                    go_wp2_with fail
                    go_roundg (gk - 1)
                    case measure => have := Hg.out; omega
                    case rel => have := Hg.out; exact ⟨k + 1, by omega, by omega, by go_num, rfl⟩
                · go_wp2_with fail
                  go_ret
                  exact ⟨rfl, B5⟩
      · go_wp2_with fail
        go_ret
        exact ⟨rfl, Below.refl _ _⟩
    · go_wp2_with fail
      go_ret
      exact ⟨rfl, Below.refl _ _⟩
end Go.Proofs.Qxb6001793a
