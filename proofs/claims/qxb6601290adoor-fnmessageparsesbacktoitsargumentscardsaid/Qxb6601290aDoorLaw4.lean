/-
  THE PLAIN LAW of FnMessageKeepsUTF8ValidityAndHasNoControlBytes.
-/
import Derived.Test.Qxb6601290aDoorMessage
namespace Go.Proofs.Qxb6601290aDoor

theorem decDigits_mem (u : Nat) : ∀ c ∈ Lib.decDigits u, 48 ≤ c.toNat ∧ c.toNat ≤ 57 := by
  induction u using Nat.strongRecOn with
  | _ u ih =>
    rw [Lib.decDigits]
    split
    · intro c hc
      simp only [List.mem_singleton] at hc
      subst hc
      simp; omega
    · intro c hc
      rcases List.mem_append.1 hc with hc | hc
      · exact ih (u / 10) (by omega) c hc
      · simp only [List.mem_singleton] at hc
        subst hc
        simp; omega

theorem decDigits_ne (u : Nat) : Lib.decDigits u ≠ [] := by
  rw [Lib.decDigits]
  split <;> simp

theorem itoa_mem (n : Int) : ∀ c ∈ Lib.itoa n, 45 ≤ c.toNat ∧ c.toNat ≤ 57 := by
  intro c hc
  unfold Lib.itoa at hc
  split at hc
  · rcases List.mem_cons.1 hc with rfl | hc
    · decide
    · have := decDigits_mem _ c hc; omega
  · have := decDigits_mem _ c hc; omega

/-! ### No control byte -/
theorem hexd_ge (n : Nat) (h : n < 16) : 48 ≤ (P.hexd n).toNat := by
  unfold P.hexd
  split <;> simp <;> omega
theorem esc_ge (c : UInt8) : ∀ x ∈ P.esc c, 32 ≤ x.toNat := by
  have hc := c.toNat_lt
  have h1 := hexd_ge (c.toNat / 16) (by omega)
  have h2 := hexd_ge (c.toNat % 16) (by omega)
  intro x hx
  unfold P.esc at hx
  repeat' split at hx
  all_goals simp only [List.mem_cons, List.not_mem_nil, or_false] at hx
  all_goals first | (rcases hx with rfl | rfl <;> decide) | skip
  · rcases hx with rfl | rfl | rfl | rfl | rfl | rfl <;> first | decide | omega
  · rename_i h
    subst hx
    rw [UInt8.lt_iff_toNat_lt] at h
    simp at h; omega
theorem escs_ge (l : List UInt8) : ∀ x ∈ P.escs l, 32 ≤ x.toNat := by
  intro x hx
  obtain ⟨c, _, hc⟩ := List.mem_flatMap.1 hx
  exact esc_ge c x hc
theorem lit_ge (l : List UInt8) : ∀ x ∈ P.lit l, 32 ≤ x.toNat := by
  intro x hx
  rcases List.mem_cons.1 hx with rfl | hx
  · decide
  · rcases List.mem_append.1 hx with hx | hx
    · exact escs_ge l x hx
    · simp only [List.mem_singleton] at hx
      subst hx; decide

theorem s1_ge : ∀ x ∈ s1, 32 ≤ x.toNat ∧ x.toNat < 128 := by decide
theorem s2_ge : ∀ x ∈ s2, 32 ≤ x.toNat ∧ x.toNat < 128 := by decide
theorem s3_ge : ∀ x ∈ s3, 32 ≤ x.toNat ∧ x.toNat < 128 := by decide
theorem nul_ge : ∀ x ∈ nul, 32 ≤ x.toNat ∧ x.toNat < 128 := by decide
theorem msg_ge (n : Int) (nonce : List UInt8) (h : Option (List UInt8)) : ∀ x ∈ msg n nonce h, 32 ≤ x.toNat := by
  intro x hx
  simp only [msg, List.mem_append] at hx
  rcases hx with (((((hx | hx) | hx) | hx) | hx) | hx) | hx
  · exact (s1_ge x hx).1
  · have := itoa_mem n x hx; omega
  · exact (s2_ge x hx).1
  · exact lit_ge _ x hx
  · exact (s3_ge x hx).1
  · cases h with
    | none => exact (nul_ge x hx).1
    | some l => exact lit_ge _ x hx
  · simp only [List.mem_singleton] at hx
    subst hx; decide

/-! ### UTF-8 -/
/-- Is the hash, if any, valid? -/
def hvalid : Option (List UInt8) → Bool
  | none => true
  | some l => P.valid l

theorem itoa_ne (n : Int) : Lib.itoa n ≠ [] := by
  unfold Lib.itoa
  split
  · simp
  · exact decDigits_ne _

theorem valid_iff (l : List UInt8) : P.valid l = decide (P.run 0 l = 0) := by
  unfold P.valid
  by_cases h : P.run 0 l = 0 <;> simp [h]

theorem run_any (q : Nat) (l : List UInt8) (hne : l ≠ []) (ha : ∀ x ∈ l, x.toNat < 128) : P.run q l = if q = 0 then 0 else 8 := P.run_ascii l hne ha q

theorem valid_msg (n : Int) (nonce : List UInt8) (h : Option (List UInt8)) : P.valid (msg n nonce h) = (P.valid nonce && hvalid h) := by
  have hI := run_any 0 (Lib.itoa n) (itoa_ne n) (fun x hx => by have := itoa_mem n x hx; omega)
  have e1 : P.run 0 s1 = 0 := by decide
  have hr : P.run 0 (msg n nonce h) = if P.run 0 nonce = 0 ∧ hvalid h = true then 0 else 8 := by
    simp only [msg, P.run_append, e1, hI, if_true]
    rw [run_any 0 s2 (by decide) (fun x hx => (s2_ge x hx).2), P.run_lit, run_any _ s3 (by decide) (fun x hx => (s3_ge x hx).2)]
    cases h with
    | none =>
      simp only [hpart, hvalid, run_any _ nul (by decide) (fun x hx => (nul_ge x hx).2)]
      rw [run_any _ [125] (by decide) (by decide)]
      by_cases hq : P.run 0 nonce = 0 <;> simp [hq]
    | some l =>
      simp only [hpart, hvalid, P.run_lit, valid_iff]
      rw [run_any _ [125] (by decide) (by decide)]
      by_cases hq : P.run 0 nonce = 0 <;> by_cases hl : P.run 0 l = 0 <;> simp [hq, hl]
  rw [valid_iff, hr, valid_iff]
  by_cases hq : P.run 0 nonce = 0 <;> cases hvalid h <;> simp [hq]

end Go.Proofs.Qxb6601290aDoor
