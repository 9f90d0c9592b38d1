/-
  THE TEXT OF A bytea[], AND THE WALK OF byteaArray.
-/
import Derived.Test.Qxb6001793aArgs
namespace Go.Proofs.Qxb6001793a
open Go.RowKit

/-- One element: quote, two backslashes, x, the digits, quote. -/
def elem (l : List UInt8) : List UInt8 := [34, 92, 92, 120] ++ Lib.Hx.encode l ++ [34]
/-- The elements, commas between. -/
def body : List (List UInt8) → List UInt8
  | [] => []
  | l :: r => match r with
    | [] => elem l
    | _ :: _ => elem l ++ 44 :: body r
def text (I : List (List UInt8)) : List UInt8 := 123 :: (body I ++ [125])

theorem body_one (l : List UInt8) : body [l] = elem l := rfl
theorem body_more (l x : List UInt8) (r : List (List UInt8)) : body (l :: x :: r) = elem l ++ 44 :: body (x :: r) := rfl
theorem body_join (I J : List (List UInt8)) (hI : I ≠ []) (hJ : J ≠ []) : body (I ++ J) = body I ++ 44 :: body J := by
  induction I with
  | nil => exact absurd rfl hI
  | cons l r ih =>
    cases r with
    | nil =>
      cases J with
      | nil => exact absurd rfl hJ
      | cons x J => simp only [List.cons_append, List.nil_append, body_more, body_one]
    | cons x r =>
      have := ih (by simp)
      simp only [List.cons_append] at this ⊢
      rw [body_more, body_more, this]
      simp
theorem body_snoc (I : List (List UInt8)) (l : List UInt8) : body (I ++ [l]) = body I ++ (if I = [] then [] else [44]) ++ elem l := by
  by_cases h : I = []
  · subst h; rw [if_pos rfl]; rfl
  · rw [if_neg h, body_join I [l] h (by simp), body_one]; simp
theorem elem_len (l : List UInt8) : (elem l).length = 2 * l.length + 5 := by
  simp [elem, Lib.Hx.encode_length]
theorem body_len (I : List (List UInt8)) : (body I).length + (if I = [] then 0 else 1) = 2 * bytesOf I + 6 * I.length := by
  induction I with
  | nil => rfl
  | cons l r ih =>
    cases r with
    | nil => simp [body_one, elem_len, bytesOf]
    | cons x r =>
      rw [if_neg (by simp)] at ih ⊢
      rw [body_more, List.length_append, List.length_cons, elem_len]
      simp only [bytesOf, List.map_cons, List.sum_cons, List.length_cons] at ih ⊢
      omega
theorem bytesOf_take (I : List (List UInt8)) (k : Nat) : bytesOf (I.take k) ≤ bytesOf I := by
  have h : bytesOf I = bytesOf (I.take k) + bytesOf (I.drop k) := by
    have e : I = I.take k ++ I.drop k := (List.take_append_drop k I).symm
    have h2 : bytesOf (I.take k ++ I.drop k) = bytesOf (I.take k) + bytesOf (I.drop k) := by unfold bytesOf; rw [List.map_append, List.sum_append]
    rw [← h2, ← e]
  omega

/-- What the builder holds behind k items. -/
def sofar (I : List (List UInt8)) (k : Nat) : List UInt8 := 123 :: body (I.take k)
theorem sofar_len (I : List (List UInt8)) (k : Nat) (hb : 24 * I.length + bytesOf I ≤ 1048576) : (Lib.byteCells (sofar I k)).length ≤ 4194304 := by
  have h1 := body_len (I.take k)
  have h2 := bytesOf_take I k
  have h3 : (I.take k).length ≤ I.length := by simp; omega
  rw [Lib.byteCells_length, sofar, List.length_cons]
  omega
theorem sofar_succ (I : List (List UInt8)) (k : Nat) (hk : k < I.length) : sofar I (k + 1) = sofar I k ++ (if k = 0 then [] else [44]) ++ [34, 92, 92, 120] ++ Lib.Hx.encode I[k] ++ [34] := by
  have e : (I.take k = []) ↔ k = 0 := by
    constructor
    · intro h
      have := congrArg List.length h
      rw [List.length_take, List.length_nil] at this
      omega
    · intro h; subst h; simp
  rw [sofar, sofar, List.take_succ_eq_append_getElem hk, body_snoc, elem]
  simp only [e, List.cons_append, List.append_assoc]
theorem sofar_end (I : List (List UInt8)) (k : Nat) (hk : ¬ k < I.length) : text I = sofar I k ++ [125] := by
  rw [text, sofar, List.take_of_length_le (by omega)]; rfl

theorem builder_below {T e : TypeId} {B b : Nat} {bs : List Value} {w w' : World} (h : Lib.IsBuilderF T e B b bs w) (hb : Below w.heap.size w w') : Lib.IsBuilderF T e B b bs w' := by
  have one : ∀ {p : Value}, Lib.BuilderAtF T e B b p bs w → Lib.BuilderAtF T e B b p bs w' := by
    intro p hp
    have hlt := hp.lt
    obtain ⟨hB, v, hbk, hown, hne⟩ := hp
    exact ⟨hB, v, (hb.block _ hlt).trans hbk, hown.kept (row := some b) ⟨hb.os, hb.tape, hb.output, hb.size, fun k hk _ => hb.block k hk⟩ (Or.inr hne), hne⟩
  exact h.elim (fun x => .inl (one x)) (fun x => .inr (one x))
theorem put_str {T e : TypeId} {B b : Nat} {acc : List UInt8} {s : ByteArray} {w : World} (l : List UInt8) (hl : s.data.toList = l) (h : Lib.BuilderAtF T e B b (.pointer (some ⟨b, 0, none⟩)) (Lib.byteCells acc ++ Lib.strCells s) w) : Lib.IsBuilderF T e B b (Lib.byteCells (acc ++ l)) w := by
  subst hl
  rw [Lib.byteCells_append]
  exact Or.inr h
theorem put_byte {T e : TypeId} {B b : Nat} {acc : List UInt8} {w : World} (c : UInt8) (n : Int) (hn : n = c.toNat) (h : Lib.BuilderAtF T e B b (.pointer (some ⟨b, 0, none⟩)) (Lib.byteCells acc ++ [.int .u8 n]) w) : Lib.IsBuilderF T e B b (Lib.byteCells (acc ++ [c])) w := by
  subst hn
  rw [Lib.byteCells_append]
  exact Or.inr h

/-- hex.EncodeToString at an item of the law's own copy. -/
theorem hex_item {w : World} {x : Value} {l : List UInt8} (h : OItem w x l) (hl : l.length ≤ 1048576) : Calls Try.prog 27 #[x] w fun e w' => e = .returned (.string ⟨(Lib.Hx.encode l).toArray⟩) ∧ Below w.heap.size w w' := by
  rcases h with ⟨rfl, rfl⟩ | ⟨b, cap, rfl, hlt, hc⟩
  · exact Try.hex_EncodeToString_nil w
  · exact Try.hex_EncodeToString_bytes b 0 cap l w (fun i h => by rw [Nat.zero_add]; exact hc i h) hlt (by omega)

theorem bytesOf_one (I : List (List UInt8)) (k : Nat) (hk : k < I.length) : I[k].length ≤ bytesOf I := by
  have h1 := bytesOf_take I (k + 1)
  rw [List.take_succ_eq_append_getElem hk] at h1
  unfold bytesOf at h1 ⊢
  rw [List.map_append, List.sum_append] at h1
  simp only [List.map_cons, List.map_nil, List.sum_cons, List.sum_nil] at h1
  omega

set_option maxHeartbeats 2000000 in
set_option maxRecDepth 100000 in
theorem bytea21 (a : Option Addr) (cap : Nat) (I : List (List UInt8)) (w : World) (hcells : I ≠ [] → ∃ b, a = some ⟨b, 0, none⟩ ∧ ∀ r (hr : r < I.length), ∃ x, w.cell? ⟨b, r, none⟩ = some x ∧ OItem w x I[r]) (hbnd : 24 * I.length + bytesOf I ≤ 1048576) :
    Calls Try.prog 21 #[.slice a I.length cap] w fun e w' => e = .returned (.string ⟨(text I).toArray⟩) ∧ Below w.heap.size w w' := by
  have HC : Hid (I ≠ [] → ∃ b, a = some ⟨b, 0, none⟩ ∧ ∀ r (hr : r < I.length), ∃ x, w.cell? ⟨b, r, none⟩ = some x ∧ OItem w x I[r]) := hcells
  clear hcells
  go_enter Try.func21, Try.ntmps21
  go_wp2_with fail
  refine (Try.Builder_WriteByte_k w.heap.size w.heap.size [] 123 _ (Lib.IsBuilderF.of (Lib.fresh_isBuilder 42 5 w)) (by simp) (by simp)).mono ?_
  rintro e W0 ⟨rfl, g0, b0, _⟩
  have I0 : Lib.IsBuilderF 42 5 w.heap.size w.heap.size (Lib.byteCells (sofar I 0)) W0 := put_byte (acc := []) 123 123 rfl g0
  have B0 : Below w.heap.size w W0 := ((Below.refl _ w).alloc (Nat.le_refl _) _).trans b0
  clear g0 b0
  go_wp2_with fail
  go_loopg [9] I.length (fun g i wr => ∃ k : Nat, g + k = I.length ∧ k ≤ I.length ∧ i = .int .i64 k ∧ Lib.IsBuilderF 42 5 w.heap.size w.heap.size (Lib.byteCells (sofar I k)) wr ∧ Below w.heap.size w wr)
  case atStart => exact ⟨0, rfl, Nat.zero_le _, rfl, I0, B0⟩
  case round =>
    obtain ⟨k, hg, hk, rfl, hI, hbw⟩ := hrel
    have Hg : Hid (gk + k = I.length) := hg
    clear hg I0 B0
    have hL := sofar_len I k hbnd
    have hb0 := hbw.size
    by_cases hlt : k < I.length
    · have hne : I ≠ [] := by intro h; rw [h] at hlt; simp at hlt
      obtain ⟨b, ha, hr⟩ := HC.out hne
      subst ha
      obtain ⟨x, hx, hox⟩ := hr k hlt
      have hcx : wr.cell? ⟨b, k, none⟩ = some x := (hbw.cell (p := ⟨b, k, none⟩) (cell_lt hx)).trans hx
      have hlk : I[k].length ≤ 1048576 := by have := bytesOf_one I k hlt; omega
      have HS : Hid (sofar I (k + 1) = _) := sofar_succ I k hlt
      clear hr hx
      obtain ⟨xa, xn, xc, hxs⟩ : ∃ xa xn xc, x = .slice xa xn xc := by
        rcases hox with ⟨h1, _⟩ | ⟨b2, c2, h1, _⟩
        · exact ⟨_, _, _, h1⟩
        · exact ⟨_, _, _, h1⟩
      subst hxs
      by_cases hk0 : k = 0
      · have hk0' : ¬ (0 : Int) < k := by omega
        have HK : Hid (k = 0) := hk0
        have I1 : Lib.IsBuilderF 42 5 w.heap.size w.heap.size (Lib.byteCells (sofar I k ++ (if k = 0 then [] else [44]))) wr := by rw [hk0] at hI ⊢; simpa using hI
        have hL1 : (Lib.byteCells (sofar I k ++ (if k = 0 then [] else [44]))).length ≤ 4194305 := by rw [Lib.byteCells_append, List.length_append]; rw [hk0] at hL ⊢; simp [Lib.byteCells] at hL ⊢; omega
        clear hk0 hI hL
        generalize sofar I k ++ (if k = 0 then [] else [44]) = acc at *
        go_wp2_with fail
        refine (Try.Builder_WriteString_k w.heap.size w.heap.size _ _ _ I1 (by rw [Lib.byteCells_length] at *; simp [ByteArray.size]; omega) hb0).mono ?_
        rintro e W2 ⟨rfl, g2, b2, _⟩
        have I2 := put_str [34, 92, 92, 120] rfl g2
        have B2 : Below w.heap.size w W2 := hbw.trans b2
        have z2 := B2.size
        clear g2 b2
        go_wp2_with fail
        refine (hex_item (hox.stays B2) hlk).mono ?_
        rintro e W3 ⟨rfl, b3⟩
        have I3 := builder_below I2 b3
        have B3 : Below w.heap.size w W3 := B2.trans (b3.mono z2)
        have z3 := B3.size
        clear b3 I2 B2
        go_wp2_with fail
        refine (Try.Builder_WriteString_k w.heap.size w.heap.size _ _ _ I3 (by rw [Lib.byteCells_length] at *; have := Lib.Hx.encode_length I[k]; simp [ByteArray.size]; omega) z3).mono ?_
        rintro e W4 ⟨rfl, g4, b4, _⟩
        have I4 := put_str (Lib.Hx.encode I[k]) rfl g4
        have B4 : Below w.heap.size w W4 := B3.trans b4
        have z4 := B4.size
        clear g4 b4 I3 B3
        go_wp2_with fail
        refine (Try.Builder_WriteByte_k w.heap.size w.heap.size _ 34 _ I4 (by rw [Lib.byteCells_length] at *; have := Lib.Hx.encode_length I[k]; simp; omega) z4).mono ?_
        rintro e W5 ⟨rfl, g5, b5, _⟩
        have I5 := put_byte 34 34 rfl g5
        have B5 : Below w.heap.size w W5 := B4.trans b5
        clear g5 b5 I4 B4
        go_wp2_with fail
        go_roundg (gk - 1)
        case measure => have := Hg.out; omega
        case rel =>
          have := Hg.out
          refine ⟨k + 1, by omega, by omega, by go_num, ?_, B5⟩
          rw [HS.out]
          exact I5
      · have hk0' : (0 : Int) < k := by omega
        have e44 : (if k = 0 then [] else [44] : List UInt8) = [44] := by rw [if_neg hk0]
        rw [e44] at HS
        clear hk0 e44
        go_wp2_with fail
        refine (Try.Builder_WriteByte_k w.heap.size w.heap.size _ 44 _ hI (by omega) hb0).mono ?_
        rintro e W1 ⟨rfl, g1, b1, _⟩
        have I1 := put_byte 44 44 rfl g1
        have B1 : Below w.heap.size w W1 := hbw.trans b1
        have z1 := B1.size
        have hL1 : (Lib.byteCells (sofar I k ++ [44])).length ≤ 4194305 := by rw [Lib.byteCells_append, List.length_append]; simp [Lib.byteCells] at hL ⊢; omega
        clear g1 b1 hI hL
        generalize sofar I k ++ [44] = acc at *
        go_wp2_with fail
        refine (Try.Builder_WriteString_k w.heap.size w.heap.size _ _ _ I1 (by rw [Lib.byteCells_length] at *; simp [ByteArray.size]; omega) z1).mono ?_
        rintro e W2 ⟨rfl, g2, b2, _⟩
        have I2 := put_str [34, 92, 92, 120] rfl g2
        have B2 : Below w.heap.size w W2 := B1.trans b2
        have z2 := B2.size
        clear g2 b2
        go_wp2_with fail
        refine (hex_item (hox.stays B2) hlk).mono ?_
        rintro e W3 ⟨rfl, b3⟩
        have I3 := builder_below I2 b3
        have B3 : Below w.heap.size w W3 := B2.trans (b3.mono z2)
        have z3 := B3.size
        clear b3 I2 B2
        go_wp2_with fail
        refine (Try.Builder_WriteString_k w.heap.size w.heap.size _ _ _ I3 (by rw [Lib.byteCells_length] at *; have := Lib.Hx.encode_length I[k]; simp [ByteArray.size]; omega) z3).mono ?_
        rintro e W4 ⟨rfl, g4, b4, _⟩
        have I4 := put_str (Lib.Hx.encode I[k]) rfl g4
        have B4 : Below w.heap.size w W4 := B3.trans b4
        have z4 := B4.size
        clear g4 b4 I3 B3
        go_wp2_with fail
        refine (Try.Builder_WriteByte_k w.heap.size w.heap.size _ 34 _ I4 (by rw [Lib.byteCells_length] at *; have := Lib.Hx.encode_length I[k]; simp; omega) z4).mono ?_
        rintro e W5 ⟨rfl, g5, b5, _⟩
        have I5 := put_byte 34 34 rfl g5
        have B5 : Below w.heap.size w W5 := B4.trans b5
        clear g5 b5 I4 B4
        go_wp2_with fail
        go_roundg (gk - 1)
        case measure => have := Hg.out; omega
        case rel =>
          have := Hg.out
          refine ⟨k + 1, by omega, by omega, by go_num, ?_, B5⟩
          rw [HS.out]
          exact I5
    · have HE : Hid (text I = sofar I k ++ [125]) := sofar_end I k hlt
      go_wp2_with fail
      refine (Try.Builder_WriteByte_k w.heap.size w.heap.size _ 125 _ hI (by omega) hb0).mono ?_
      rintro e W1 ⟨rfl, g1, b1, _⟩
      have I1 := put_byte 125 125 rfl g1
      have B1 : Below w.heap.size w W1 := hbw.trans b1
      have z1 := B1.size
      clear g1 b1 hI
      go_wp2_with fail
      refine (Try.Builder_String_any_k w.heap.size w.heap.size _ _ I1 z1).mono ?_
      rintro e W2 ⟨rfl, _, b2, _⟩
      go_wp2_with fail
      go_ret
      rw [HE.out]
      exact ⟨rfl, B1.trans b2⟩

/-- THE TEXT. -/
theorem bytea_any {w : World} {v : Value} {I : List (List UInt8)} (h : OItems w v I) (hbnd : 24 * I.length + bytesOf I ≤ 1048576) :
    Calls Try.prog 15 #[v] w fun e w' => e = .returned (.string ⟨(text I).toArray⟩) ∧ Below w.heap.size w w' := by
  obtain ⟨a, cap, rfl, hc⟩ := h
  have H := bytea21 a cap I w hc hbnd
  have HH : Hid _ := H
  clear H hc
  go_enter Try.func15, Try.ntmps15
  go_wp2_with fail
  refine Calls.mono HH.out ?_
  rintro e w' ⟨rfl, hb⟩
  go_wp2_with fail
  go_ret
  exact ⟨rfl, hb⟩
end Go.Proofs.Qxb6001793a
