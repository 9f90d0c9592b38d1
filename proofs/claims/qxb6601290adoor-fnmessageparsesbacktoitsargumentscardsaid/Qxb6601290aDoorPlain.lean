/-
  The plain law, with no Go in sight: how a byte is spelt inside the literal; UTF-8 as a small automaton.
-/
import Derived.WalkKit
namespace Go.Proofs.Qxb6601290aDoor.P

/-- A hexadecimal digit, in small letters. -/
def hexd (n : Nat) : UInt8 := if n < 10 then UInt8.ofNat (48 + n) else UInt8.ofNat (87 + n)

/-- How one byte is spelt inside the literal. -/
def esc (c : UInt8) : List UInt8 :=
  if c = 34 then [92, 34] else if c = 92 then [92, 92] else if c = 8 then [92, 98] else if c = 12 then [92, 102]
  else if c = 10 then [92, 110] else if c = 13 then [92, 114] else if c = 9 then [92, 116]
  else if c < 32 then [92, 117, 48, 48, hexd (c.toNat / 16), hexd (c.toNat % 16)] else [c]

def escs (l : List UInt8) : List UInt8 := l.flatMap esc
def lit (l : List UInt8) : List UInt8 := 34 :: (escs l ++ [34])

theorem escs_nil : escs [] = [] := rfl
theorem escs_cons (c : UInt8) (l : List UInt8) : escs (c :: l) = esc c ++ escs l := rfl
theorem escs_append (a b : List UInt8) : escs (a ++ b) = escs a ++ escs b := by unfold escs; exact List.flatMap_append
theorem escs_snoc (a : List UInt8) (c : UInt8) : escs (a ++ [c]) = escs a ++ esc c := by rw [escs_append]; simp [escs]

theorem esc_len (c : UInt8) : 1 ≤ (esc c).length ∧ (esc c).length ≤ 6 := by
  unfold esc
  repeat' split
  all_goals simp

theorem escs_len (l : List UInt8) : l.length ≤ (escs l).length ∧ (escs l).length ≤ 6 * l.length := by
  induction l with
  | nil => simp [escs]
  | cons c l ih =>
    have := esc_len c
    rw [escs_cons, List.length_append, List.length_cons]
    omega

theorem lit_len (l : List UInt8) : l.length + 2 ≤ (lit l).length ∧ (lit l).length ≤ 6 * l.length + 2 := by
  have := escs_len l
  simp [lit]
  omega

/-! ### The automaton of UTF-8 -/
def stp (q c : Nat) : Nat :=
  if q = 0 then (if c < 128 then 0 else if c < 194 then 8 else if c ≤ 223 then 1 else if c = 224 then 4 else if c = 237 then 5 else if c ≤ 239 then 2 else if c = 240 then 6 else if c ≤ 243 then 3 else if c = 244 then 7 else 8)
  else if q = 1 then (if 128 ≤ c ∧ c ≤ 191 then 0 else 8)
  else if q = 2 then (if 128 ≤ c ∧ c ≤ 191 then 1 else 8)
  else if q = 3 then (if 128 ≤ c ∧ c ≤ 191 then 2 else 8)
  else if q = 4 then (if 160 ≤ c ∧ c ≤ 191 then 1 else 8)
  else if q = 5 then (if 128 ≤ c ∧ c ≤ 159 then 1 else 8)
  else if q = 6 then (if 144 ≤ c ∧ c ≤ 191 then 2 else 8)
  else if q = 7 then (if 128 ≤ c ∧ c ≤ 143 then 2 else 8)
  else 8
def run (q : Nat) (l : List UInt8) : Nat := l.foldl (fun q c => stp q c.toNat) q
def valid (l : List UInt8) : Bool := run 0 l == 0

theorem run_nil (q : Nat) : run q [] = q := rfl
theorem run_cons (q : Nat) (c : UInt8) (l : List UInt8) : run q (c :: l) = run (stp q c.toNat) l := rfl
theorem run_append (q : Nat) (a b : List UInt8) : run q (a ++ b) = run (run q a) b := by unfold run; exact List.foldl_append

theorem stp_le (q c : Nat) : stp q c ≤ 8 := by
  unfold stp
  repeat' split
  all_goals omega
theorem stp_ascii (q c : Nat) (hc : c < 128) : stp q c = if q = 0 then 0 else 8 := by
  unfold stp
  by_cases h0 : q = 0
  · simp [h0, hc]
  · have e1 : ¬ (128 ≤ c ∧ c ≤ 191) := by omega
    have e2 : ¬ (160 ≤ c ∧ c ≤ 191) := by omega
    have e3 : ¬ (128 ≤ c ∧ c ≤ 159) := by omega
    have e4 : ¬ (144 ≤ c ∧ c ≤ 191) := by omega
    have e5 : ¬ (128 ≤ c ∧ c ≤ 143) := by omega
    simp [h0, e1, e2, e3, e4, e5]

theorem run8 (l : List UInt8) : run 8 l = 8 := by
  induction l with
  | nil => rfl
  | cons c l ih => rw [run_cons]; simpa [stp] using ih

theorem run_ascii (l : List UInt8) (hne : l ≠ []) (ha : ∀ c ∈ l, c.toNat < 128) (q : Nat) : run q l = if q = 0 then 0 else 8 := by
  induction l generalizing q with
  | nil => exact absurd rfl hne
  | cons c l ih =>
    rw [run_cons, stp_ascii q _ (ha c (by simp))]
    cases l with
    | nil => rfl
    | cons d l =>
      rw [ih (by simp) (fun x hx => ha x (by simp [hx]))]
      split <;> simp

theorem hexd_ascii (n : Nat) (h : n < 16) : (hexd n).toNat < 128 := by
  unfold hexd
  split <;> simp <;> omega

theorem esc_ascii (c : UInt8) (hc : c.toNat < 128) : esc c ≠ [] ∧ ∀ x ∈ esc c, x.toNat < 128 := by
  have h1 := hexd_ascii (c.toNat / 16) (by omega)
  have h2 := hexd_ascii (c.toNat % 16) (by omega)
  unfold esc
  repeat' split
  all_goals (refine ⟨by simp, ?_⟩; intro x hx; simp at hx)
  all_goals (first | (rcases hx with rfl | rfl <;> decide) | skip)
  · rcases hx with rfl | rfl | rfl | rfl | rfl <;> first | decide | assumption
  · subst hx; exact hc

theorem esc_high (c : UInt8) (hc : 128 ≤ c.toNat) : esc c = [c] := by
  have h : ∀ d : UInt8, d.toNat < 128 → ¬ c = d := fun d hd e => by subst e; omega
  unfold esc
  rw [if_neg (h _ (by decide)), if_neg (h _ (by decide)), if_neg (h _ (by decide)), if_neg (h _ (by decide)), if_neg (h _ (by decide)), if_neg (h _ (by decide)), if_neg (h _ (by decide)), if_neg]
  rw [UInt8.lt_iff_toNat_lt]; simp; omega

theorem run_esc1 (q : Nat) (c : UInt8) : run q (esc c) = stp q c.toNat := by
  by_cases hc : c.toNat < 128
  · have h := esc_ascii c hc
    rw [run_ascii _ h.1 h.2, stp_ascii _ _ hc]
  · rw [esc_high c (by omega)]; rfl

theorem run_escs (l : List UInt8) (q : Nat) : run q (escs l) = run q l := by
  induction l generalizing q with
  | nil => rfl
  | cons c l ih => rw [escs_cons, run_append, run_esc1, run_cons, ih]

theorem run_lit (l : List UInt8) (q : Nat) : run q (lit l) = if q = 0 ∧ run 0 l = 0 then 0 else 8 := by
  unfold lit
  rw [run_cons, run_append, run_escs, stp_ascii q _ (by decide), run_ascii [34] (by simp) (by simp)]
  by_cases h : q = 0
  · simp [h]
  · simp [h, run8]


/-! ### One round of the reader of UTF-8 -/
theorem run_ge8 (q : Nat) (h : q = 8) (l : List UInt8) : run q l = 8 := by subst h; exact run8 l

theorem valid_false_of (l : List UInt8) (n : Nat) (h : run 0 (l.take n) = 8) : valid l = false := by
  have e : l = l.take n ++ l.drop n := (List.take_append_drop n l).symm
  unfold valid
  rw [e, run_append, h, run8]; rfl

theorem take_snoc_get (l : List UInt8) (k : Nat) (h : k < l.length) : l.take (k + 1) = l.take k ++ [l[k]] := List.take_succ_eq_append_getElem h

theorem run_take_succ (l : List UInt8) (k : Nat) (h : k < l.length) : run 0 (l.take (k + 1)) = stp (run 0 (l.take k)) (l[k]).toNat := by
  rw [take_snoc_get l k h, run_append]; rfl

/-- Behind a leading byte c: so many are needed, the first of them between lo and hi. -/
def Lead (c need lo hi : Nat) : Prop := 1 ≤ need ∧ need ≤ 3 ∧ stp 0 c ≠ 0 ∧ ∀ b, stp (stp 0 c) b = if lo ≤ b ∧ b ≤ hi then need - 1 else 8

theorem lead_c2 (c : Nat) (h1 : 194 ≤ c) (h2 : c ≤ 223) : Lead c 1 128 191 := by
  have e : stp 0 c = 1 := by unfold stp; rw [if_pos rfl, if_neg (by omega), if_neg (by omega), if_pos h2]
  refine ⟨by omega, by omega, by omega, fun b => ?_⟩
  rw [e]; simp [stp]
theorem lead_e0 (c : Nat) (h : c = 224) : Lead c 2 160 191 := by
  subst h
  exact ⟨by omega, by omega, by decide, fun b => by simp [stp]⟩
theorem lead_ed (c : Nat) (h : c = 237) : Lead c 2 128 159 := by
  subst h
  exact ⟨by omega, by omega, by decide, fun b => by simp [stp]⟩
theorem lead_e1 (c : Nat) (h1 : 225 ≤ c) (h2 : c ≤ 239) (h3 : c ≠ 237) : Lead c 2 128 191 := by
  have e : stp 0 c = 2 := by unfold stp; rw [if_pos rfl, if_neg (by omega), if_neg (by omega), if_neg (by omega), if_neg (by omega), if_neg h3, if_pos h2]
  refine ⟨by omega, by omega, by omega, fun b => ?_⟩
  rw [e]; simp [stp]
theorem lead_f0 (c : Nat) (h : c = 240) : Lead c 3 144 191 := by
  subst h
  exact ⟨by omega, by omega, by decide, fun b => by simp [stp]⟩
theorem lead_f1 (c : Nat) (h1 : 241 ≤ c) (h2 : c ≤ 243) : Lead c 3 128 191 := by
  have e : stp 0 c = 3 := by unfold stp; rw [if_pos rfl, if_neg (by omega), if_neg (by omega), if_neg (by omega), if_neg (by omega), if_neg (by omega), if_neg (by omega), if_neg (by omega), if_pos h2]
  refine ⟨by omega, by omega, by omega, fun b => ?_⟩
  rw [e]; simp [stp]
theorem lead_f4 (c : Nat) (h : c = 244) : Lead c 3 128 143 := by
  subst h
  exact ⟨by omega, by omega, by decide, fun b => by simp [stp]⟩
theorem stp0_bad (c : Nat) (h : (128 ≤ c ∧ c < 194) ∨ 245 ≤ c) : stp 0 c = 8 := by
  rcases h with h | h
  · unfold stp; rw [if_pos rfl, if_neg (by omega), if_pos (by omega)]
  · unfold stp; rw [if_pos rfl, if_neg (by omega), if_neg (by omega), if_neg (by omega), if_neg (by omega), if_neg (by omega), if_neg (by omega), if_neg (by omega), if_neg (by omega), if_neg (by omega)]

theorem stp_low (r b : Nat) (h1 : 1 ≤ r) (h2 : r ≤ 2) : stp r b = if 128 ≤ b ∧ b ≤ 191 then r - 1 else 8 := by
  rcases (show r = 1 ∨ r = 2 by omega) with rfl | rfl <;> simp [stp]

section round
variable {l : List UInt8} {i : Nat}
theorem round_ascii (hi : i < l.length) (h0 : run 0 (l.take i) = 0) (hc : (l[i]).toNat < 128) : run 0 (l.take (i + 1)) = 0 := by
  rw [run_take_succ l i hi, h0, stp_ascii _ _ hc]; rfl
theorem round_bad (hi : i < l.length) (h0 : run 0 (l.take i) = 0) (hc : (128 ≤ (l[i]).toNat ∧ (l[i]).toNat < 194) ∨ 245 ≤ (l[i]).toNat) : valid l = false :=
  valid_false_of l (i + 1) (by rw [run_take_succ l i hi, h0, stp0_bad _ hc])
theorem lead_states {c need lo hi' : Nat} (h : Lead c need lo hi') (t : List UInt8) (hs : t.length < need) : run (stp 0 c) t ≠ 0 := by
  obtain ⟨n1, n3, hne, hb⟩ := h
  match t, hs with
  | [], _ => exact hne
  | [b], hs =>
    rw [run_cons, hb]
    simp only [List.length_cons, List.length_nil] at hs
    split <;> simp [run_nil]
    omega
  | [b, d], hs =>
    simp only [List.length_cons, List.length_nil] at hs
    obtain rfl : need = 3 := by omega
    rw [run_cons, hb]
    split
    · rw [run_cons, stp_low _ _ (by omega) (by omega)]
      split <;> simp [run_nil]
    · rw [run8]; omega
  | _ :: _ :: _ :: _, hs => simp only [List.length_cons] at hs; omega
theorem round_short {need lo hi' : Nat} (hi : i < l.length) (h0 : run 0 (l.take i) = 0) (h : Lead (l[i]).toNat need lo hi') (hs : l.length ≤ i + need) : valid l = false := by
  have e : l = l.take (i + 1) ++ l.drop (i + 1) := (List.take_append_drop _ l).symm
  have hr : run 0 l ≠ 0 := by
    rw [e, run_append, run_take_succ l i hi, h0]
    exact lead_states h _ (by rw [List.length_drop]; omega)
  unfold valid
  exact beq_eq_false_iff_ne.2 hr
theorem round_b1 {need lo hi' : Nat} (hi : i < l.length) (h0 : run 0 (l.take i) = 0) (h : Lead (l[i]).toNat need lo hi') (hs : i + 1 < l.length) : run 0 (l.take (i + 2)) = if lo ≤ (l[i + 1]).toNat ∧ (l[i + 1]).toNat ≤ hi' then need - 1 else 8 := by
  rw [run_take_succ l (i + 1) hs, run_take_succ l i hi, h0, h.2.2.2]
theorem round_bk {r k : Nat} (hk : k < l.length) (h1 : 1 ≤ r) (h2 : r ≤ 2) (h0 : run 0 (l.take k) = r) : run 0 (l.take (k + 1)) = if 128 ≤ (l[k]).toNat ∧ (l[k]).toNat ≤ 191 then r - 1 else 8 := by
  rw [run_take_succ l k hk, h0, stp_low _ _ h1 h2]
end round

end Go.Proofs.Qxb6601290aDoor.P
