/-
  THE WALKS OF zzHexVal AND zzDecodeByteaArray.
-/
import Derived.Test.Qxb6001793aBytea
import Derived.Lib.HexFns2
import Derived.Laws.OwnMore
namespace Go.Proofs.Qxb6001793a
open Go.RowKit

theorem digit_val (k : Nat) (h : k < 16) : ((Lib.Hx.digit k).toNat : Int) = if k < 10 then 48 + (k : Int) else 87 + (k : Int) := by
  have all : ∀ m : Fin 16, ((Lib.Hx.digit m.1).toNat : Int) = if m.1 < 10 then 48 + (m.1 : Int) else 87 + (m.1 : Int) := by decide
  exact all ⟨k, h⟩
theorem digit_ne (k : Nat) (h : k < 16) : ((Lib.Hx.digit k).toNat : Int) ≠ 34 := by
  rw [digit_val k h]; split <;> omega

theorem ret2_u8 {a b : Int} {x : Value} (h : a = b) : Ending.returned (.tuple #[.int .u8 a, x]) = .returned (.tuple #[.int .u8 b, x]) := by rw [h]

/-- A digit is read back. -/
theorem hexval (k : Nat) (c : Int) (w : World) (h : k < 16) (hc : c = (Lib.Hx.digit k).toNat) : Calls Try.prog 20 #[.int .u8 c] w fun e w' => e = .returned (.tuple #[.int .u8 (k : Int), .bool true]) ∧ w = w' := by
  rw [digit_val k h] at hc
  by_cases hk : k < 10
  · rw [if_pos hk] at hc
    subst hc
    go_enter Try.func20, Try.ntmps20
    go_wp2
    go_ret2
    exact ⟨ret2_u8 (by omega), rfl⟩
  · rw [if_neg hk] at hc
    subst hc
    go_enter Try.func20, Try.ntmps20
    go_wp2
    go_ret2
    exact ⟨ret2_u8 (by omega), rfl⟩

/-! ### Bytes at their places -/
theorem mid_at (m : ByteArray) (a l c : List UInt8) (hm : m.data.toList = a ++ (l ++ c)) (j : Nat) (hj : j < l.length) : ∃ h : a.length + j < m.size, m[a.length + j]'h = l[j] := by
  have hl : m.data.toList.length = m.size := rfl
  have h : a.length + j < m.size := by rw [← hl, hm]; simp; omega
  refine ⟨h, ?_⟩
  have e : m[a.length + j]'h = (m.data.toList[a.length + j]'(by omega)) := rfl
  rw [e]
  simp only [hm]
  rw [List.getElem_append_right (by omega)]
  simp [List.getElem_append_left hj]
theorem size_of_parts (m : ByteArray) (a l c : List UInt8) (hm : m.data.toList = a ++ (l ++ c)) : m.size = a.length + l.length + c.length := by
  have hl : m.data.toList.length = m.size := rfl
  rw [← hl, hm]; simp; omega

/-- What stands ahead of element k. -/
def ahd (I : List (List UInt8)) (k : Nat) : List UInt8 := sofar I k ++ (if k = 0 then [] else [44])
/-- What stands behind element k. -/
def behind (I : List (List UInt8)) (k : Nat) : List UInt8 := if k + 1 = I.length then [125] else 44 :: (body (I.drop (k + 1)) ++ [125])
theorem text_at (I : List (List UInt8)) (k : Nat) (hk : k < I.length) : text I = ahd I k ++ (elem I[k] ++ behind I k) := by
  have e : I = I.take (k + 1) ++ I.drop (k + 1) := (List.take_append_drop _ I).symm
  have hs := sofar_succ I k hk
  by_cases hl : k + 1 = I.length
  · have h1 := sofar_end I (k + 1) (by omega)
    rw [h1, hs, behind, if_pos hl, ahd, elem]
    simp
  · have hd : I.drop (k + 1) ≠ [] := by
      intro h
      have := congrArg List.length h
      rw [List.length_drop, List.length_nil] at this
      omega
    have ht : I.take (k + 1) ≠ [] := by
      intro h
      have := congrArg List.length h
      rw [List.length_take, List.length_nil] at this
      omega
    have hj := body_join _ _ ht hd
    rw [← e] at hj
    have h1 : text I = sofar I (k + 1) ++ 44 :: (body (I.drop (k + 1)) ++ [125]) := by
      rw [text, hj, sofar]; simp
    rw [h1, hs, behind, if_neg hl, ahd, elem]
    simp
theorem ahd_succ (I : List (List UInt8)) (k : Nat) (hk : k < I.length) : (ahd I (k + 1)).length = (ahd I k).length + 2 * I[k].length + 6 := by
  have hs := sofar_succ I k hk
  simp only [ahd, hs, List.length_append, Lib.Hx.encode_length]
  rw [if_neg (by omega : ¬ k + 1 = 0)]
  simp
  omega
theorem ahd_zero (I : List (List UInt8)) : (ahd I 0).length = 1 := by simp [ahd, sofar, body]

/-- What one element shows, byte by byte. -/
theorem elem_bytes (S : ByteArray) (I : List (List UInt8)) (k : Nat) (hS : S.data.toList = text I) (hk : k < I.length) :
    ∃ hz : (ahd I k).length + 2 * I[k].length + 5 < S.size,
      ((S[(ahd I k).length]'(by omega)).toNat : Int) = 34 ∧ ((S[(ahd I k).length + 1]'(by omega)).toNat : Int) = 92 ∧ ((S[(ahd I k).length + 2]'(by omega)).toNat : Int) = 92 ∧ ((S[(ahd I k).length + 3]'(by omega)).toNat : Int) = 120 ∧
      (∀ j (hj : j < I[k].length), ((S[(ahd I k).length + 4 + 2 * j]'(by omega)).toNat : Int) = (Lib.Hx.digit (I[k][j].toNat / 16)).toNat ∧ ((S[(ahd I k).length + 4 + 2 * j + 1]'(by omega)).toNat : Int) = (Lib.Hx.digit (I[k][j].toNat % 16)).toNat) ∧
      ((S[(ahd I k).length + 4 + 2 * I[k].length]'(by omega)).toNat : Int) = 34 ∧
      ((S[(ahd I k).length + 5 + 2 * I[k].length]'(by omega)).toNat : Int) = (if k + 1 = I.length then 125 else 44) ∧ (k + 1 = I.length → (ahd I k).length + 6 + 2 * I[k].length = S.size) := by
  have ht := text_at I k hk
  have hl := elem_len I[k]
  have he := Lib.Hx.encode_length I[k]
  have hb : 1 ≤ (behind I k).length := by unfold behind; split <;> simp
  have hsz := size_of_parts S (ahd I k) (elem I[k]) (behind I k) (by rw [hS, ht])
  have hz : (ahd I k).length + 2 * I[k].length + 5 < S.size := by omega
  have at_ : ∀ j (hj : j < (elem I[k]).length) (n : Nat) (hn : n = (ahd I k).length + j) (hx : n < S.size), S[n]'hx = (elem I[k])[j] := by
    intro j hj n hn hx
    subst hn
    obtain ⟨_, e⟩ := mid_at S (ahd I k) (elem I[k]) (behind I k) (by rw [hS, ht]) j hj
    exact e
  have g : ∀ j (hj : j < (elem I[k]).length) (u : UInt8), (elem I[k])[j]? = some u → (elem I[k])[j] = u := fun j hj u hu => by
    rw [List.getElem?_eq_getElem hj] at hu
    exact Option.some.inj hu
  refine ⟨hz, ?_, ?_, ?_, ?_, ?_, ?_, ?_, ?_⟩
  · rw [at_ 0 (by omega) (ahd I k).length (by omega), g 0 _ 34 rfl]; rfl
  · rw [at_ 1 (by omega) _ rfl, g 1 _ 92 rfl]; rfl
  · rw [at_ 2 (by omega) _ rfl, g 2 _ 92 rfl]; rfl
  · rw [at_ 3 (by omega) _ rfl, g 3 _ 120 rfl]; rfl
  · intro j hj
    have hen := Lib.Hx.encode_at I[k] j _ (List.getElem?_eq_getElem hj)
    constructor
    · rw [at_ (4 + 2 * j) (by omega) _ (by omega), g (4 + 2 * j) _ _ ?_]
      unfold elem
      rw [List.getElem?_append_left (by simp; omega), List.getElem?_append_right (by simp)]
      simpa using hen.1
    · rw [at_ (4 + 2 * j + 1) (by omega) _ (by omega), g (4 + 2 * j + 1) _ _ ?_]
      unfold elem
      rw [List.getElem?_append_left (by simp; omega), List.getElem?_append_right (by simp; omega)]
      have e2 : 4 + 2 * j + 1 - ([34, 92, 92, 120] : List UInt8).length = 2 * j + 1 := by simp; omega
      rw [e2]
      exact hen.2
  · rw [at_ (4 + 2 * I[k].length) (by omega) _ (by omega), g (4 + 2 * I[k].length) _ 34 ?_]
    · rfl
    · unfold elem
      rw [List.getElem?_append_right (by simp; omega)]
      have e2 : 4 + 2 * I[k].length - ([34, 92, 92, 120] ++ Lib.Hx.encode I[k]).length = 0 := by simp; omega
      rw [e2]; rfl
  · obtain ⟨hh, e⟩ := mid_at S (ahd I k ++ elem I[k]) (behind I k) [] (by rw [hS, ht]; simp) 0 (by omega)
    have en : (ahd I k ++ elem I[k]).length + 0 = (ahd I k).length + 5 + 2 * I[k].length := by rw [List.length_append]; omega
    simp only [en] at e
    rw [e]
    unfold behind
    split <;> simp
  · intro hlast
    have : (behind I k).length = 1 := by unfold behind; rw [if_pos hlast]; rfl
    omega
end Go.Proofs.Qxb6001793a
