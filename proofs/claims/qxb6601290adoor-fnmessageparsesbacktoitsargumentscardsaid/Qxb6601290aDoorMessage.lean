/-
  THE WALK OF Message: what it hands back is the list of bytes 'msg'.
-/
import Derived.Test.Qxb6601290aDoorWrite
import Derived.Lib.AppendIntMem
import Derived.Lib.ItoaLen
import Derived.Lib.SmallJoins
import Derived.Laws.IdiomStrings
import Derived.BigCall
namespace Go.Proofs.Qxb6601290aDoor
open Go.RowKit

def s1 : List UInt8 := [123, 34, 97, 115, 115, 105, 103, 110, 109, 101, 110, 116, 95, 105, 100, 34, 58]
def s2 : List UInt8 := [44, 34, 110, 111, 110, 99, 101, 34, 58]
def s3 : List UInt8 := [44, 34, 111, 117, 116, 112, 117, 116, 95, 104, 97, 115, 104, 34, 58]
def nul : List UInt8 := [110, 117, 108, 108]

/-- The hash's own part. -/
def hpart : Option (List UInt8) → List UInt8
  | none => nul
  | some h => P.lit h

/-- THE MESSAGE, as a list of bytes. -/
def msg (n : Int) (nonce : List UInt8) (h : Option (List UInt8)) : List UInt8 := s1 ++ Lib.itoa n ++ s2 ++ P.lit nonce ++ s3 ++ hpart h ++ [125]

theorem msg_len (n : Int) (nonce : List UInt8) (h : Option (List UInt8)) (h0 : -9223372036854775808 ≤ n) (h1 : n ≤ 9223372036854775807) (hs : nonce.length ≤ 1048576) (hh : ∀ l, h = some l → l.length ≤ 1048576) : (msg n nonce h).length ≤ 16777216 := by
  have hi := Lib.itoa_length_le n h0 h1
  have hl := P.lit_len nonce
  have hp : (hpart h).length ≤ 6291458 := by
    cases h with
    | none => simp [hpart, nul]
    | some l =>
      have h2 := P.lit_len l
      have h3 := hh l rfl
      simp only [hpart]; omega
  simp only [msg, List.length_append, s1, s2, s3, List.length_cons, List.length_nil]
  omega

theorem builder_below {T e : TypeId} {B b : Nat} {bs : List Value} {w w' : World} (h : Lib.IsBuilderF T e B b bs w) (hb : Below w.heap.size w w') : Lib.IsBuilderF T e B b bs w' := by
  have one : ∀ {p : Value}, Lib.BuilderAtF T e B b p bs w → Lib.BuilderAtF T e B b p bs w' := by
    intro p hp
    have hlt := hp.lt
    obtain ⟨hB, v, hbk, hown, hne⟩ := hp
    exact ⟨hB, v, (hb.block _ hlt).trans hbk, hown.kept (row := some b) ⟨hb.os, hb.tape, hb.output, hb.size, fun k hk _ => hb.block k hk⟩ (Or.inr hne), hne⟩
  exact h.elim (fun x => .inl (one x)) (fun x => .inr (one x))

theorem put_str {T e : TypeId} {B b : Nat} {acc : List UInt8} {s : ByteArray} {w : World} (l : List UInt8) (hl : s.data.toList = l) (h : Lib.BuilderAtF T e B b (.pointer (some ⟨b, 0, none⟩)) (Lib.byteCells acc ++ Lib.strCells s) w) : Lib.IsBuilderF T e B b (Lib.byteCells (acc ++ l)) w := by
  subst hl
  rw [Lib.byteCells_append]
  exact Or.inr h

/-- What Message leaves: a row of bytes of its own. -/
def Handed1 (w : World) (l : List UInt8) (e : Ending) (w' : World) : Prop :=
  ∃ g cap, e = .returned (.slice (some ⟨g, 0, none⟩) l.length cap) ∧ w.heap.size ≤ g ∧ g < w'.heap.size ∧ (∀ j (hj : j < l.length), w'.cell? ⟨g, j, none⟩ = some (.int .u8 (l[j].toNat : Int))) ∧ Below w.heap.size w w'

theorem gTab : Tryd.prog.globalNamed Tryd.powN = some 0 := by kernel_rfl

/-- A row that '[]byte(s)' lays, cell by cell. -/
theorem bytesRow_at (l : List UInt8) (cap j : Nat) (hj : j < l.length) : (bytesRow ⟨l.toArray⟩ cap)[j]? = some (.int .u8 (l[j].toNat : Int)) := by
  simp [bytesRow, Array.getElem?_append, hj]

set_option maxHeartbeats 1000000 in
set_option maxRecDepth 100000 in
theorem message_nil (n : Int) (nonce : ByteArray) (w : World) (h0 : -9223372036854775808 ≤ n) (h1 : n ≤ 9223372036854775807) (hs : nonce.size ≤ 1048576) 
    (htab : Lib.TabIs Tryd.prog w Tryd.powN .u64 Lib.pow10Tab) :
    Calls Tryd.prog 6 #[.int .i64 n, .string nonce, .pointer none] w (Handed1 w (msg n nonce.data.toList none)) := by
  have hi := Lib.itoa_length_le n h0 h1
  have hn := P.lit_len nonce.data.toList
  have hnl : nonce.data.toList.length = nonce.size := rfl
  have l1 : s1.length = 17 := rfl
  have l2 : s2.length = 9 := rfl
  have l3 : s3.length = 15 := rfl
  go_enter Tryd.func6, Tryd.ntmps6
  go_wp2_with fail
  refine (Tryd.Builder_WriteString_k w.heap.size w.heap.size [] _ _ (Lib.IsBuilderF.of (Lib.fresh_isBuilder 31 5 w)) (by simp [ByteArray.size]) (by simp)).mono ?_
  rintro e W1 ⟨rfl, g1, b1, _⟩
  have I1 : Lib.IsBuilderF 31 5 w.heap.size w.heap.size (Lib.byteCells s1) W1 := put_str (acc := []) s1 rfl g1
  have B1 : Below w.heap.size w W1 := ((Below.refl _ w).alloc (Nat.le_refl _) _).trans b1
  have t1 : Lib.TabIs Tryd.prog W1 Tryd.powN .u64 Lib.pow10Tab := Joins.tab_stays gTab htab B1 (Nat.le_refl _)
  clear g1 b1
  go_wp2_with fail
  refine (Tryd.strconv_FormatInt_10 n h0 h1 _ t1).mono ?_
  rintro e W2 ⟨rfl, k, os, hw2⟩
  have b2 : Below W1.heap.size W1 W2 := by rw [hw2]; exact Lib.below_grow _ _ (Nat.le_refl _) _ _
  clear hw2 k os
  have I2 := builder_below I1 b2
  have B2 : Below w.heap.size w W2 := B1.trans (b2.mono B1.size)
  have z2 := B2.size
  clear t1 htab I1 B1 b2
  go_wp2_with fail
  refine (Tryd.Builder_WriteString_k w.heap.size w.heap.size _ _ _ I2 (by rw [Lib.byteCells_length]; simp only [ByteArray.size, List.size_toArray]; omega) z2).mono ?_
  rintro e W3 ⟨rfl, g3, b3, _⟩
  have I3 := put_str (Lib.itoa n) rfl g3
  have B3 : Below w.heap.size w W3 := B2.trans b3
  have z3 := B3.size
  clear g3 b3 I2 B2 z2
  go_wp2_with fail
  refine (Tryd.Builder_WriteString_k w.heap.size w.heap.size _ _ _ I3 (by rw [Lib.byteCells_length]; simp [ByteArray.size]; omega) z3).mono ?_
  rintro e W4 ⟨rfl, g4, b4, _⟩
  have I4 := put_str s2 rfl g4
  have B4 : Below w.heap.size w W4 := B3.trans b4
  have z4 := B4.size
  clear g4 b4 I3 B3 z3
  go_wp2_with fail
  refine (writeString_any w.heap.size w.heap.size _ nonce _ I4 (by simp; omega) (by omega) z4).mono ?_
  rintro e W5 ⟨rfl, I5, b5⟩
  have B5 : Below w.heap.size w W5 := B4.trans b5
  have z5 := B5.size
  clear b5 I4 B4 z4
  go_wp2_with fail
  refine (Tryd.Builder_WriteString_k w.heap.size w.heap.size _ _ _ I5 (by rw [Lib.byteCells_length]; simp [ByteArray.size]; omega) z5).mono ?_
  rintro e W6 ⟨rfl, g6, b6, _⟩
  have I6 := put_str s3 rfl g6
  have B6 : Below w.heap.size w W6 := B5.trans b6
  have z6 := B6.size
  clear g6 b6 I5 B5 z5
  go_wp2_with fail
  refine (Tryd.Builder_WriteString_k w.heap.size w.heap.size _ _ _ I6 (by rw [Lib.byteCells_length]; simp [ByteArray.size]; omega) z6).mono ?_
  rintro e W7 ⟨rfl, g7, b7, _⟩
  have I7 := put_str nul rfl g7
  have lX : nul.length = 4 := rfl
  clear g7
  have B7 : Below w.heap.size w W7 := B6.trans b7
  have z7 := B7.size
  clear b7 I6 B6 z6
  go_wp2_with fail
  refine (Tryd.Builder_WriteString_k w.heap.size w.heap.size _ _ _ I7 (by rw [Lib.byteCells_length]; simp [ByteArray.size]; omega) z7).mono ?_
  rintro e W8 ⟨rfl, g8, b8, _⟩
  have I8 : Lib.IsBuilderF 31 5 w.heap.size w.heap.size (Lib.byteCells (msg n nonce.data.toList none)) W8 := put_str [125] rfl g8
  have B8 : Below w.heap.size w W8 := B7.trans b8
  have z8 := B8.size
  clear g8 b8 I7 B7 z7
  generalize msg n nonce.data.toList none = M at *
  go_wp2_with fail
  refine (Tryd.Builder_String_any_k w.heap.size w.heap.size M _ I8 z8).mono ?_
  rintro e W9 ⟨rfl, _, b9, _⟩
  have B9 : Below w.heap.size w W9 := B8.trans b9
  have z9 := B9.size
  clear b9 I8 B8 z8
  have kc := run_bytes_of_string (P := Tryd.prog) W9 9 24 5 ⟨M.toArray⟩ Tryd.underlying9 Tryd.underlying24 Tryd.underlying5
  go_wp2_with fail
  go_ret
  refine ⟨W9.heap.size, _, rfl, z9, ?_, ?_, ?_⟩
  · simp
  · intro j hj
    exact (World.cell?_alloc_mark W9 _ 5 _ j).trans (bytesRow_at M _ j hj)
  · exact B9.drew.alloc z9 _

set_option maxHeartbeats 1000000 in
set_option maxRecDepth 100000 in
theorem message_ptr (n : Int) (nonce : ByteArray) (hb ho : Nat) (hash : ByteArray) (w : World) (h0 : -9223372036854775808 ≤ n) (h1 : n ≤ 9223372036854775807) (hs : nonce.size ≤ 1048576) (hh : hash.size ≤ 1048576) (hlt : hb < w.heap.size) (hcell : w.cell? ⟨hb, ho, none⟩ = some (.string hash))
    (htab : Lib.TabIs Tryd.prog w Tryd.powN .u64 Lib.pow10Tab) :
    Calls Tryd.prog 6 #[.int .i64 n, .string nonce, .pointer (some ⟨hb, ho, none⟩)] w (Handed1 w (msg n nonce.data.toList (some hash.data.toList))) := by
  have hi := Lib.itoa_length_le n h0 h1
  have hn := P.lit_len nonce.data.toList
  have hnl : nonce.data.toList.length = nonce.size := rfl
  have l1 : s1.length = 17 := rfl
  have l2 : s2.length = 9 := rfl
  have l3 : s3.length = 15 := rfl
  go_enter Tryd.func6, Tryd.ntmps6
  go_wp2_with fail
  refine (Tryd.Builder_WriteString_k w.heap.size w.heap.size [] _ _ (Lib.IsBuilderF.of (Lib.fresh_isBuilder 31 5 w)) (by simp [ByteArray.size]) (by simp)).mono ?_
  rintro e W1 ⟨rfl, g1, b1, _⟩
  have I1 : Lib.IsBuilderF 31 5 w.heap.size w.heap.size (Lib.byteCells s1) W1 := put_str (acc := []) s1 rfl g1
  have B1 : Below w.heap.size w W1 := ((Below.refl _ w).alloc (Nat.le_refl _) _).trans b1
  have t1 : Lib.TabIs Tryd.prog W1 Tryd.powN .u64 Lib.pow10Tab := Joins.tab_stays gTab htab B1 (Nat.le_refl _)
  clear g1 b1
  go_wp2_with fail
  refine (Tryd.strconv_FormatInt_10 n h0 h1 _ t1).mono ?_
  rintro e W2 ⟨rfl, k, os, hw2⟩
  have b2 : Below W1.heap.size W1 W2 := by rw [hw2]; exact Lib.below_grow _ _ (Nat.le_refl _) _ _
  clear hw2 k os
  have I2 := builder_below I1 b2
  have B2 : Below w.heap.size w W2 := B1.trans (b2.mono B1.size)
  have z2 := B2.size
  clear t1 htab I1 B1 b2
  go_wp2_with fail
  refine (Tryd.Builder_WriteString_k w.heap.size w.heap.size _ _ _ I2 (by rw [Lib.byteCells_length]; simp only [ByteArray.size, List.size_toArray]; omega) z2).mono ?_
  rintro e W3 ⟨rfl, g3, b3, _⟩
  have I3 := put_str (Lib.itoa n) rfl g3
  have B3 : Below w.heap.size w W3 := B2.trans b3
  have z3 := B3.size
  clear g3 b3 I2 B2 z2
  go_wp2_with fail
  refine (Tryd.Builder_WriteString_k w.heap.size w.heap.size _ _ _ I3 (by rw [Lib.byteCells_length]; simp [ByteArray.size]; omega) z3).mono ?_
  rintro e W4 ⟨rfl, g4, b4, _⟩
  have I4 := put_str s2 rfl g4
  have B4 : Below w.heap.size w W4 := B3.trans b4
  have z4 := B4.size
  clear g4 b4 I3 B3 z3
  go_wp2_with fail
  refine (writeString_any w.heap.size w.heap.size _ nonce _ I4 (by simp; omega) (by omega) z4).mono ?_
  rintro e W5 ⟨rfl, I5, b5⟩
  have B5 : Below w.heap.size w W5 := B4.trans b5
  have z5 := B5.size
  clear b5 I4 B4 z4
  go_wp2_with fail
  refine (Tryd.Builder_WriteString_k w.heap.size w.heap.size _ _ _ I5 (by rw [Lib.byteCells_length]; simp [ByteArray.size]; omega) z5).mono ?_
  rintro e W6 ⟨rfl, g6, b6, _⟩
  have I6 := put_str s3 rfl g6
  have B6 : Below w.heap.size w W6 := B5.trans b6
  have z6 := B6.size
  clear g6 b6 I5 B5 z5
  have hc6 : W6.cell? ⟨hb, ho, none⟩ = some (.string hash) := (B6.cell (p := ⟨hb, ho, none⟩) hlt).trans hcell
  go_wp2_with fail
  refine (writeString_any w.heap.size w.heap.size _ hash _ I6 (by simp; omega) (by omega) z6).mono ?_
  rintro e W7 ⟨rfl, I7, b7⟩
  have lX := P.lit_len hash.data.toList
  have lY : hash.data.toList.length = hash.size := rfl
  clear hc6
  have B7 : Below w.heap.size w W7 := B6.trans b7
  have z7 := B7.size
  clear b7 I6 B6 z6
  go_wp2_with fail
  refine (Tryd.Builder_WriteString_k w.heap.size w.heap.size _ _ _ I7 (by rw [Lib.byteCells_length]; simp [ByteArray.size]; omega) z7).mono ?_
  rintro e W8 ⟨rfl, g8, b8, _⟩
  have I8 : Lib.IsBuilderF 31 5 w.heap.size w.heap.size (Lib.byteCells (msg n nonce.data.toList (some hash.data.toList))) W8 := put_str [125] rfl g8
  have B8 : Below w.heap.size w W8 := B7.trans b8
  have z8 := B8.size
  clear g8 b8 I7 B7 z7
  generalize msg n nonce.data.toList (some hash.data.toList) = M at *
  go_wp2_with fail
  refine (Tryd.Builder_String_any_k w.heap.size w.heap.size M _ I8 z8).mono ?_
  rintro e W9 ⟨rfl, _, b9, _⟩
  have B9 : Below w.heap.size w W9 := B8.trans b9
  have z9 := B9.size
  clear b9 I8 B8 z8
  have kc := run_bytes_of_string (P := Tryd.prog) W9 9 24 5 ⟨M.toArray⟩ Tryd.underlying9 Tryd.underlying24 Tryd.underlying5
  go_wp2_with fail
  go_ret
  refine ⟨W9.heap.size, _, rfl, z9, ?_, ?_, ?_⟩
  · simp
  · intro j hj
    exact (World.cell?_alloc_mark W9 _ 5 _ j).trans (bytesRow_at M _ j hj)
  · exact B9.drew.alloc z9 _

end Go.Proofs.Qxb6601290aDoor
