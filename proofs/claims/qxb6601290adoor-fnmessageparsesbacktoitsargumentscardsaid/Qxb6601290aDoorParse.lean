/-
  THE WALK OF parseInt64B1.
-/
import Derived.Test.Qxb6601290aDoorExpect
import Derived.Test.Qxb6601290aDoorLaw4
import Derived.Lib.ItoaNum
namespace Go.Proofs.Qxb6601290aDoor
open Go.RowKit

/-! ### Decimal numerals -/
def val (l : List UInt8) : Nat := l.foldl (fun x c => x * 10 + (c.toNat - 48)) 0
theorem val_snoc (l : List UInt8) (c : UInt8) : val (l ++ [c]) = val l * 10 + (c.toNat - 48) := by unfold val; rw [List.foldl_append]; rfl
theorem val_append_le (a b : List UInt8) : val a ≤ val (a ++ b) := by
  induction b generalizing a with
  | nil => simp
  | cons c b ih =>
    have e : a ++ c :: b = (a ++ [c]) ++ b := by simp
    rw [e]
    refine Nat.le_trans ?_ (ih (a ++ [c]))
    rw [val_snoc]; omega
theorem val_take_le (l : List UInt8) (k : Nat) : val (l.take k) ≤ val l := by
  have := val_append_le (l.take k) (l.drop k)
  rwa [List.take_append_drop] at this
theorem val_dec (u : Nat) : val (Lib.decDigits u) = u := by
  induction u using Nat.strongRecOn with
  | _ u ih =>
    rw [Lib.decDigits]
    split
    · simp [val]; omega
    · rw [val_snoc, ih (u / 10) (by omega)]
      simp; omega
theorem dec_len (k : Nat) : ∀ u, u < 10 ^ (k + 1) → (Lib.decDigits u).length ≤ k + 1 := by
  induction k with
  | zero =>
    intro u hu
    rw [Lib.decDigits, dif_pos (by simpa using hu)]; simp
  | succ k ih =>
    intro u hu
    rw [Lib.decDigits]
    split
    · simp
    · have := ih (u / 10) (by rw [Nat.pow_succ] at hu; omega)
      rw [List.length_append]; simp; omega
theorem dec_head (u : Nat) (hu : u ≠ 0) : ∃ c r, Lib.decDigits u = c :: r ∧ 49 ≤ c.toNat := by
  induction u using Nat.strongRecOn with
  | _ u ih =>
    rw [Lib.decDigits]
    split
    · exact ⟨_, [], rfl, by simp; omega⟩
    · obtain ⟨c, r, e, h⟩ := ih (u / 10) (by omega) (by omega)
      exact ⟨c, r ++ [UInt8.ofNat (48 + u % 10)], by rw [e]; rfl, h⟩
theorem dec_pos (u : Nat) : 1 ≤ (Lib.decDigits u).length := by
  have := decDigits_ne u
  cases h : Lib.decDigits u with
  | nil => exact absurd h this
  | cons c r => simp

theorem ret3_int {a b : Int} {x y : Value} (h : a = b) : Ending.returned (.tuple #[.int .i64 a, x, y]) = .returned (.tuple #[.int .i64 b, x, y]) := by rw [h]

set_option maxHeartbeats 1000000 in
set_option maxRecDepth 100000 in
/-- A numeral without a sign: digits at p .. p+L-1, no digit behind. V k: what the first k digits say. -/
theorem parse_pos (m : ByteArray) (p L : Nat) (V : Nat → Nat) (w : World) (hms : m.size ≤ 16777216) (hL1 : 1 ≤ L) (hL : L ≤ 19) (hpl : p + L < m.size)
    (hd : ∀ k (h : p + k < m.size), k < L → 48 ≤ ((m[p + k]'h).toNat : Int) ∧ ((m[p + k]'h).toNat : Int) ≤ 57) (hend : ((m[p + L]'hpl).toNat : Int) < 48)
    (hV0 : V 0 = 0) (hVs : ∀ k (h : p + k < m.size), k < L → (V (k + 1) : Int) = V k * 10 + ((m[p + k]'h).toNat - 48)) (hVb : ∀ k, k ≤ L → (V k : Int) ≤ 9223372036854775807)
    (hz : ¬ ((m[p]'(by omega)).toNat : Int) = 48 ∨ L = 1) :
    Calls Tryd.prog 15 #[.string m, .int .i64 (p : Int)] w fun e w' => e = .returned (.tuple #[.int .i64 (V L : Int), .int .i64 ((p : Int) + L), .bool true]) ∧ w' = w := by
  have h0 := hd 0 (by omega) (by omega)
  have HV0 : Hid (V 0 = 0) := hV0
  have HVs : Hid (∀ k (h : p + k < m.size), k < L → (V (k + 1) : Int) = V k * 10 + ((m[p + k]'h).toNat - 48)) := hVs
  have HVb : Hid (∀ k, k ≤ L → (V k : Int) ≤ 9223372036854775807) := hVb
  have HD : Hid (∀ k (h : p + k < m.size), k < L → 48 ≤ ((m[p + k]'h).toNat : Int) ∧ ((m[p + k]'h).toNat : Int) ≤ 57) := hd
  clear hd hVs hVb hV0
  have hp : p < m.size := by omega
  have h45 : ((m[p].toNat : Int) == 45) = false := by
    have : m[p + 0] = m[p] := rfl
    rw [this] at h0
    simp; omega
  go_enter Tryd.func15, Tryd.ntmps15
  go_wp2
  go_loopg [1, 9] L (fun g i v wr => ∃ k : Nat, k ≤ L ∧ g + k = L ∧ i = .int .i64 ((p : Int) + k) ∧ v = .int .u64 (V k : Int) ∧ wr = w)
  case atStart => exact ⟨0, Nat.zero_le _, rfl, by go_num, by rw [HV0.out]; rfl, rfl⟩
  case round =>
    obtain ⟨k, hk, hg, rfl, rfl, rfl⟩ := hrel
    have Hg : Hid (gk + k = L) := hg
    clear hg
    by_cases hlt : k < L
    · have hpk : p + k < m.size := by omega
      obtain ⟨d1, d2⟩ := HD.out k hpk hlt
      have b1 := HVb.out k hk
      have b2 := HVb.out (k + 1) hlt
      have HS : Hid ((V (k + 1) : Int) = V k * 10 + ((m[p + k]'hpk).toNat - 48)) := HVs.out k hpk hlt
      have b3 : (V k : Int) * 10 + ((m[p + k]'hpk).toNat - 48) ≤ 9223372036854775807 := by have := HS.out; omega
      clear b2
      go_wp2
      go_roundg (gk - 1)
      case measure => have := Hg.out; omega
      case rel =>
        have := Hg.out
        exact ⟨k + 1, by omega, by omega, by go_num, by rw [HS.out], rfl⟩
    · obtain rfl : k = L := by omega
      have b1 := HVb.out k hk
      have hk0 : ((p : Int) + k - p == 0) = false := by simp; omega
      by_cases h48 : (m[p].toNat : Int) = 48
      · have e48 : ((m[p].toNat : Int) == 48) = true := by simp [h48]
        have hk1 : decide (1 < (p : Int) + k - p) = false := by
          have : k = 1 := by
            rcases hz with hz | hz
            · exact absurd h48 hz
            · exact hz
          simp; omega
        clear hz h48
        go_wp2
        go_ret3
        exact ⟨rfl, rfl⟩
      · have e48 : ((m[p].toNat : Int) == 48) = false := by simp; omega
        clear hz h48
        go_wp2
        go_ret3
        exact ⟨rfl, rfl⟩

set_option maxHeartbeats 1000000 in
set_option maxRecDepth 100000 in
/-- A numeral with a '-' at p: digits at p+1 .. p+L, no digit behind. -/
theorem parse_neg (m : ByteArray) (p L : Nat) (V : Nat → Nat) (w : World) (hms : m.size ≤ 16777216) (hL1 : 1 ≤ L) (hL : L ≤ 19) (hpl : p + 1 + L < m.size) (hm45 : ((m[p]'(by omega)).toNat : Int) = 45)
    (hd : ∀ k (h : p + 1 + k < m.size), k < L → 48 ≤ ((m[p + 1 + k]'h).toNat : Int) ∧ ((m[p + 1 + k]'h).toNat : Int) ≤ 57) (hend : ((m[p + 1 + L]'hpl).toNat : Int) < 48)
    (hV0 : V 0 = 0) (hVs : ∀ k (h : p + 1 + k < m.size), k < L → (V (k + 1) : Int) = V k * 10 + ((m[p + 1 + k]'h).toNat - 48)) (hVb : ∀ k, k ≤ L → (V k : Int) ≤ 9223372036854775808)
    (hz : ¬ ((m[p + 1]'(by omega)).toNat : Int) = 48) :
    Calls Tryd.prog 15 #[.string m, .int .i64 (p : Int)] w fun e w' => e = .returned (.tuple #[.int .i64 (-(V L : Int)), .int .i64 ((p : Int) + 1 + L), .bool true]) ∧ w' = w := by
  have HV0 : Hid (V 0 = 0) := hV0
  have HVs : Hid (∀ k (h : p + 1 + k < m.size), k < L → (V (k + 1) : Int) = V k * 10 + ((m[p + 1 + k]'h).toNat - 48)) := hVs
  have HVb : Hid (∀ k, k ≤ L → (V k : Int) ≤ 9223372036854775808) := hVb
  have HD : Hid (∀ k (h : p + 1 + k < m.size), k < L → 48 ≤ ((m[p + 1 + k]'h).toNat : Int) ∧ ((m[p + 1 + k]'h).toNat : Int) ≤ 57) := hd
  clear hd hVs hVb hV0
  have hp : p < m.size := by omega
  have h45 : ((m[p].toNat : Int) == 45) = true := by simp [hm45]
  have hp1 : p + 1 < m.size := by omega
  have e48 : ((m[p + 1].toNat : Int) == 48) = false := by simp; omega
  clear hm45 hz
  go_enter Tryd.func15, Tryd.ntmps15
  go_wp2
  go_loopg [1, 9] L (fun g i v wr => ∃ k : Nat, k ≤ L ∧ g + k = L ∧ i = .int .i64 ((p : Int) + 1 + k) ∧ v = .int .u64 (V k : Int) ∧ wr = w)
  case atStart => exact ⟨0, Nat.zero_le _, rfl, by go_num, by rw [HV0.out]; rfl, rfl⟩
  case round =>
    obtain ⟨k, hk, hg, rfl, rfl, rfl⟩ := hrel
    have Hg : Hid (gk + k = L) := hg
    clear hg
    by_cases hlt : k < L
    · have hpk : p + 1 + k < m.size := by omega
      obtain ⟨d1, d2⟩ := HD.out k hpk hlt
      have b1 := HVb.out k hk
      have b2 := HVb.out (k + 1) hlt
      have HS : Hid ((V (k + 1) : Int) = V k * 10 + ((m[p + 1 + k]'hpk).toNat - 48)) := HVs.out k hpk hlt
      have b3 : (V k : Int) * 10 + ((m[p + 1 + k]'hpk).toNat - 48) ≤ 9223372036854775808 := by have := HS.out; omega
      clear b2
      go_wp2
      go_roundg (gk - 1)
      case measure => have := Hg.out; omega
      case rel =>
        have := Hg.out
        exact ⟨k + 1, by omega, by omega, by go_num, by rw [HS.out], rfl⟩
    · obtain rfl : k = L := by omega
      have b1 := HVb.out k hk
      have hk0 : ((p : Int) + 1 + k - (p + 1) == 0) = false := by simp; omega
      by_cases hmax : (V k : Int) = 9223372036854775808
      · have HM : Hid ((V k : Int) = 9223372036854775808) := hmax
        have bm : (9223372036854775808 : Int) ≤ V k := by omega
        have em : ((V k : Int) == 9223372036854775808) = true := by simp [hmax]
        clear hmax
        go_wp2
        go_ret3
        exact ⟨ret3_int (by rw [HM.out]), rfl⟩
      · have em : ((V k : Int) == 9223372036854775808) = false := by simp [hmax]
        have bm : (V k : Int) ≤ 9223372036854775807 := by omega
        clear hmax
        go_wp2
        go_ret3
        exact ⟨rfl, rfl⟩

theorem vs_of (m : ByteArray) (a D c : List UInt8) (hm : m.data.toList = a ++ (D ++ c)) (hD : ∀ x ∈ D, 48 ≤ x.toNat ∧ x.toNat ≤ 57) (k : Nat) (h : a.length + k < m.size) (hk : k < D.length) :
    (48 ≤ ((m[a.length + k]'h).toNat : Int) ∧ ((m[a.length + k]'h).toNat : Int) ≤ 57) ∧ (val (D.take (k + 1)) : Int) = val (D.take k) * 10 + ((m[a.length + k]'h).toNat - 48) := by
  obtain ⟨_, e⟩ := mid_at m a D c hm k hk
  have hd := hD _ (List.getElem_mem hk)
  rw [e, P.take_snoc_get D k hk, val_snoc]
  omega

/-- THE NUMERAL OF n IS READ BACK. -/
theorem parse_any (m : ByteArray) (i n : Int) (a c : List UInt8) (w : World) (h0 : -9223372036854775808 ≤ n) (h1 : n ≤ 9223372036854775807) (hm : m.data.toList = a ++ (Lib.itoa n ++ 44 :: c)) (hi : i = a.length) (hms : m.size ≤ 16777216) :
    Calls Tryd.prog 15 #[.string m, .int .i64 i] w fun e w' => ∃ j : Int, e = .returned (.tuple #[.int .i64 n, .int .i64 j, .bool true]) ∧ j = (a ++ Lib.itoa n).length ∧ w' = w := by
  subst hi
  have hsz := size_of_parts m a _ _ hm
  have hlen := dec_len 18
  by_cases hn : n < 0
  · have eI : Lib.itoa n = 45 :: Lib.decDigits n.natAbs := by rw [Lib.itoa, if_pos hn]
    have hD := decDigits_mem n.natAbs
    have hl1 := dec_pos n.natAbs
    have hl2 := hlen n.natAbs (by simp; omega)
    obtain ⟨c0, r0, eD, hc0⟩ := dec_head n.natAbs (by omega)
    have hv := val_dec n.natAbs
    generalize Lib.decDigits n.natAbs = D at *
    rw [eI] at hm hsz
    have hm1 : m.data.toList = (a ++ [45]) ++ (D ++ 44 :: c) := by rw [hm]; simp
    have hm2 : m.data.toList = (a ++ [45] ++ D) ++ ([44] ++ c) := by rw [hm]; simp
    have hm3 : m.data.toList = a ++ ([45] ++ (D ++ 44 :: c)) := by rw [hm]; simp
    have ha1 : (a ++ [45]).length = a.length + 1 := by simp
    simp only [List.length_cons] at hsz
    have hpl : a.length + 1 + D.length < m.size := by omega
    refine (parse_neg m a.length D.length (fun k => val (D.take k)) w hms hl1 hl2 hpl ?_ ?_ ?_ rfl ?_ ?_ ?_).mono ?_
    · obtain ⟨h, e⟩ := mid_at m a [45] (D ++ 44 :: c) hm3 0 (by simp)
      have e' : m[a.length]'(by omega) = 45 := e
      rw [e']; rfl
    · intro k h hk
      have := (vs_of m (a ++ [45]) D (44 :: c) hm1 hD k (by rw [ha1]; exact h) hk).1
      simp only [ha1] at this
      exact this
    · obtain ⟨h, e⟩ := mid_at m (a ++ [45] ++ D) [44] c hm2 0 (by simp)
      have ha2 : (a ++ [45] ++ D).length + 0 = a.length + 1 + D.length := by simp; omega
      simp only [ha2] at e
      rw [e]; decide
    · intro k h hk
      have := (vs_of m (a ++ [45]) D (44 :: c) hm1 hD k (by rw [ha1]; exact h) hk).2
      simp only [ha1] at this
      exact this
    · intro k _
      have := val_take_le D k
      omega
    · obtain ⟨h, e⟩ := mid_at m (a ++ [45]) D (44 :: c) hm1 0 (by omega)
      simp only [ha1, Nat.add_zero] at e
      rw [e]
      simp only [eD, List.getElem_cons_zero]
      omega
    · rintro e w' ⟨rfl, rfl⟩
      refine ⟨_, ret3_int ?_, ?_, rfl⟩
      · rw [List.take_of_length_le (Nat.le_refl _), hv]; omega
      · rw [eI]; simp; omega
  · have eI : Lib.itoa n = Lib.decDigits n.toNat := by rw [Lib.itoa, if_neg hn]
    have hD := decDigits_mem n.toNat
    have hl1 := dec_pos n.toNat
    have hl2 := hlen n.toNat (by simp; omega)
    have hh : n.toNat ≠ 0 → ∃ c r, Lib.decDigits n.toNat = c :: r ∧ 49 ≤ c.toNat := dec_head n.toNat
    have h00 : n.toNat = 0 → (Lib.decDigits n.toNat).length = 1 := fun h => by rw [h, Lib.decDigits, dif_pos (by decide)]; rfl
    have hv := val_dec n.toNat
    generalize Lib.decDigits n.toNat = D at *
    rw [eI] at hm hsz
    have hm2 : m.data.toList = (a ++ D) ++ ([44] ++ c) := by rw [hm]; simp
    simp only [List.length_cons] at hsz
    have hpl : a.length + D.length < m.size := by omega
    refine (parse_pos m a.length D.length (fun k => val (D.take k)) w hms hl1 hl2 hpl ?_ ?_ rfl ?_ ?_ ?_).mono ?_
    · intro k h hk
      exact (vs_of m a D (44 :: c) hm hD k h hk).1
    · obtain ⟨h, e⟩ := mid_at m (a ++ D) [44] c hm2 0 (by simp)
      have ha2 : (a ++ D).length + 0 = a.length + D.length := by simp
      simp only [ha2] at e
      rw [e]; decide
    · intro k h hk
      exact (vs_of m a D (44 :: c) hm hD k h hk).2
    · intro k _
      have := val_take_le D k
      omega
    · by_cases hz : n.toNat = 0
      · exact Or.inr (h00 hz)
      · left
        obtain ⟨c0, r0, eD, hc0⟩ := hh hz
        obtain ⟨h, e⟩ := mid_at m a D (44 :: c) hm 0 (by omega)
        have e' : m[a.length]'(by omega) = D[0] := e
        rw [e']
        simp only [eD, List.getElem_cons_zero]
        omega
    · rintro e w' ⟨rfl, rfl⟩
      refine ⟨_, ret3_int ?_, ?_, rfl⟩
      · rw [List.take_of_length_le (Nat.le_refl _), hv]; omega
      · rw [eI]; simp
end Go.Proofs.Qxb6601290aDoor
