/-
  THE WALK OF writeString: over a builder that the call itself has made.
-/
import Derived.Test.Qxb6601290aDoorShelf
import Derived.Test.Qxb6601290aDoorPlain
import Derived.WalkKit
import Derived.WalkSpells
import Derived.WalkLawsBesides
import Derived.Deep.LoopGhost
namespace Go.Proofs.Qxb6601290aDoor
open Go.RowKit

/-- What the builder holds behind k bytes of s. -/
def sofar (acc : List UInt8) (s : ByteArray) (k : Nat) : List UInt8 := acc ++ 34 :: P.escs (s.data.toList.take k)

theorem sofar_len (acc : List UInt8) (s : ByteArray) (k : Nat) : (Lib.byteCells (sofar acc s k)).length ≤ acc.length + 1 + 6 * k := by
  have h := P.escs_len (s.data.toList.take k)
  have hl : (s.data.toList.take k).length ≤ k := List.length_take_le _ _
  rw [Lib.byteCells_length, sofar, List.length_append, List.length_cons]
  omega

theorem sofar_succ (acc : List UInt8) (s : ByteArray) (k : Nat) (hlt : k < s.size) (bs : List UInt8) (he : P.esc (s[k]'hlt) = bs) : Lib.byteCells (sofar acc s (k + 1)) = Lib.byteCells (sofar acc s k) ++ Lib.byteCells bs := by
  have e : s.data.toList.take (k + 1) = s.data.toList.take k ++ [s[k]'hlt] := P.take_snoc_get s.data.toList k hlt
  rw [← Lib.byteCells_append, sofar, e, P.escs_snoc, he, sofar]
  simp

theorem sofar_end (acc : List UInt8) (s : ByteArray) (k : Nat) (hk : k ≤ s.size) (hge : ¬ k < s.size) : Lib.byteCells (acc ++ P.lit s.data.toList) = Lib.byteCells (sofar acc s k) ++ [.int .u8 34] := by
  have hl : s.data.toList.length = s.size := rfl
  have e : Lib.byteCells [34] = [.int .u8 34] := rfl
  rw [← e, ← Lib.byteCells_append, sofar, List.take_of_length_le (by omega), P.lit]
  simp

theorem byte_of (c : UInt8) (n : Nat) (hn : n < 256) (h : (c.toNat : Int) = n) : c = UInt8.ofNat n := by
  apply UInt8.toNat_inj.1
  rw [UInt8.toNat_ofNat']
  omega

theorem esc_plain (c : UInt8) (h1 : ¬ (c.toNat : Int) < 32) (h2 : ¬ (c.toNat : Int) = 34) (h3 : ¬ (c.toNat : Int) = 92) : P.esc c = [c] := by
  have h : ∀ d : UInt8, ¬ c.toNat = d.toNat → ¬ c = d := fun d hd e => hd (by rw [e])
  have lt : ¬ c < 32 := by rw [UInt8.lt_iff_toNat_lt]; simp; omega
  unfold P.esc
  rw [if_neg (h _ (by simp; omega)), if_neg (h _ (by simp; omega)), if_neg (h _ (by simp; omega)), if_neg (h _ (by simp; omega)), if_neg (h _ (by simp; omega)), if_neg (h _ (by simp; omega)), if_neg (h _ (by simp; omega)), if_neg lt]

theorem esc_ctl (c : UInt8) (h1 : (c.toNat : Int) < 32) (h8 : ¬ (c.toNat : Int) = 8) (h9 : ¬ (c.toNat : Int) = 9) (h10 : ¬ (c.toNat : Int) = 10) (h12 : ¬ (c.toNat : Int) = 12) (h13 : ¬ (c.toNat : Int) = 13) :
    P.esc c = [92, 117, 48, 48, P.hexd (c.toNat / 16), P.hexd (c.toNat % 16)] := by
  have h : ∀ d : UInt8, ¬ c.toNat = d.toNat → ¬ c = d := fun d hd e => hd (by rw [e])
  have lt : c < 32 := by rw [UInt8.lt_iff_toNat_lt]; simp; omega
  unfold P.esc
  rw [if_neg (h _ (by simp; omega)), if_neg (h _ (by simp; omega)), if_neg (h _ (by simp; omega)), if_neg (h _ (by simp; omega)), if_neg (h _ (by simp; omega)), if_neg (h _ (by simp; omega)), if_neg (h _ (by simp; omega)), if_pos lt]

def hexS : ByteArray := { data := #[48, 49, 50, 51, 52, 53, 54, 55, 56, 57, 97, 98, 99, 100, 101, 102] }
theorem hex_at (n : Nat) (h : n < hexS.size) : hexS[n]'h = P.hexd n := by
  have all : ∀ m : Fin 16, hexS.data.toList[m.1]'m.2 = P.hexd m.1 := by decide
  exact all ⟨n, h⟩

theorem ctl_cells (X : List Value) (n : Nat) (h1 : n / 16 < hexS.size) (h2 : n % 16 < hexS.size) :
    X ++ Lib.byteCells [92, 117, 48, 48, P.hexd (n / 16), P.hexd (n % 16)] = X ++ Lib.strCells { data := #[92, 117, 48, 48] } ++ [.int .u8 (hexS[n / 16]'h1).toNat] ++ [.int .u8 (hexS[n % 16]'h2).toNat] := by
  rw [hex_at _ h1, hex_at _ h2]
  simp [Lib.byteCells, Lib.strCells]

set_option maxHeartbeats 1000000 in
set_option maxRecDepth 100000 in
theorem writeString_any (B b : Nat) (acc : List UInt8) (s : ByteArray) (w : World) (h : Lib.IsBuilderF 31 5 B b (Lib.byteCells acc) w) (hlim : acc.length ≤ 16777216) (hs : s.size ≤ 16777216) (hBw : B ≤ w.heap.size) :
    Calls Tryd.prog 12 #[.pointer (some ⟨b, 0, none⟩), .string s] w fun e w' => e = .returned (.tuple #[]) ∧ Lib.IsBuilderF 31 5 B b (Lib.byteCells (acc ++ P.lit s.data.toList)) w' ∧ Below B w w' := by
  go_enter Tryd.func12, Tryd.ntmps12
  go_wp2_with (go_at_call 20; refine (Tryd.Builder_WriteByte_k B b _ 34 _ h (by rw [Lib.byteCells_length]; omega) hBw).mono ?_)
  rintro e W1 ⟨rfl, h1, b1, _⟩
  go_wp2_with fail
  go_loopg [4] s.size (fun g i wr => ∃ k : Nat, k ≤ s.size ∧ g + k = s.size ∧ i = .int .i64 k ∧ Lib.IsBuilderF 31 5 B b (Lib.byteCells (sofar acc s k)) wr ∧ Below B w wr)
  case atStart =>
    refine ⟨0, Nat.zero_le _, rfl, rfl, ?_, b1⟩
    rw [sofar, Lib.byteCells_append]; exact Or.inr h1
  case round =>
    obtain ⟨k, hk, hg, rfl, hI, hbw⟩ := hrel
    have Hg : Hid (gk + k = s.size) := hg
    clear hg h1 b1 h
    have hL := sofar_len acc s k
    have hb0 := hbw.size
    by_cases hlt : k < s.size
    · have HS : Hid (∀ bs, P.esc s[k] = bs → Lib.byteCells (sofar acc s (k + 1)) = Lib.byteCells (sofar acc s k) ++ Lib.byteCells bs) := sofar_succ acc s k hlt
      by_cases h34 : (s[k].toNat : Int) = 34
      · have e34 : ((s[k].toNat : Int) == 34) = true := by simp [h34]
        have HE : Hid (P.esc s[k] = [92, 34]) := by rw [byte_of _ 34 (by decide) h34]; rfl
        clear h34
        go_wp2_with fail
        refine (Tryd.Builder_WriteString_k B b _ _ _ hI ?_ (by omega)).mono ?_
        · simp [ByteArray.size]; omega
        rintro e W2 ⟨rfl, h2, b2, _⟩
        go_wp2
        go_roundg (gk - 1)
        case measure => have := Hg.out; omega
        case rel =>
          have := Hg.out
          refine ⟨k + 1, by omega, by omega, by go_num, ?_, hbw.trans b2⟩
          rw [HS.out _ HE.out]
          exact Or.inr h2
      by_cases h92 : (s[k].toNat : Int) = 92
      · have e92 : ((s[k].toNat : Int) == 92) = true := by simp [h92]
        have HE : Hid (P.esc s[k] = [92, 92]) := by rw [byte_of _ 92 (by decide) h92]; rfl
        have f34 : ((s[k].toNat : Int) == 34) = false := by simp; omega
        clear h34 h92
        go_wp2_with fail
        refine (Tryd.Builder_WriteString_k B b _ _ _ hI ?_ (by omega)).mono ?_
        · simp [ByteArray.size]; omega
        rintro e W2 ⟨rfl, h2, b2, _⟩
        go_wp2
        go_roundg (gk - 1)
        case measure => have := Hg.out; omega
        case rel =>
          have := Hg.out
          refine ⟨k + 1, by omega, by omega, by go_num, ?_, hbw.trans b2⟩
          rw [HS.out _ HE.out]
          exact Or.inr h2
      by_cases h8 : (s[k].toNat : Int) = 8
      · have e8 : ((s[k].toNat : Int) == 8) = true := by simp [h8]
        have HE : Hid (P.esc s[k] = [92, 98]) := by rw [byte_of _ 8 (by decide) h8]; rfl
        have f34 : ((s[k].toNat : Int) == 34) = false := by simp; omega
        have f92 : ((s[k].toNat : Int) == 92) = false := by simp; omega
        clear h34 h92 h8
        go_wp2_with fail
        refine (Tryd.Builder_WriteString_k B b _ _ _ hI ?_ (by omega)).mono ?_
        · simp [ByteArray.size]; omega
        rintro e W2 ⟨rfl, h2, b2, _⟩
        go_wp2
        go_roundg (gk - 1)
        case measure => have := Hg.out; omega
        case rel =>
          have := Hg.out
          refine ⟨k + 1, by omega, by omega, by go_num, ?_, hbw.trans b2⟩
          rw [HS.out _ HE.out]
          exact Or.inr h2
      by_cases h12 : (s[k].toNat : Int) = 12
      · have e12 : ((s[k].toNat : Int) == 12) = true := by simp [h12]
        have HE : Hid (P.esc s[k] = [92, 102]) := by rw [byte_of _ 12 (by decide) h12]; rfl
        have f34 : ((s[k].toNat : Int) == 34) = false := by simp; omega
        have f92 : ((s[k].toNat : Int) == 92) = false := by simp; omega
        have f8 : ((s[k].toNat : Int) == 8) = false := by simp; omega
        clear h34 h92 h8 h12
        go_wp2_with fail
        refine (Tryd.Builder_WriteString_k B b _ _ _ hI ?_ (by omega)).mono ?_
        · simp [ByteArray.size]; omega
        rintro e W2 ⟨rfl, h2, b2, _⟩
        go_wp2
        go_roundg (gk - 1)
        case measure => have := Hg.out; omega
        case rel =>
          have := Hg.out
          refine ⟨k + 1, by omega, by omega, by go_num, ?_, hbw.trans b2⟩
          rw [HS.out _ HE.out]
          exact Or.inr h2
      by_cases h10 : (s[k].toNat : Int) = 10
      · have e10 : ((s[k].toNat : Int) == 10) = true := by simp [h10]
        have HE : Hid (P.esc s[k] = [92, 110]) := by rw [byte_of _ 10 (by decide) h10]; rfl
        have f34 : ((s[k].toNat : Int) == 34) = false := by simp; omega
        have f92 : ((s[k].toNat : Int) == 92) = false := by simp; omega
        have f8 : ((s[k].toNat : Int) == 8) = false := by simp; omega
        have f12 : ((s[k].toNat : Int) == 12) = false := by simp; omega
        clear h34 h92 h8 h12 h10
        go_wp2_with fail
        refine (Tryd.Builder_WriteString_k B b _ _ _ hI ?_ (by omega)).mono ?_
        · simp [ByteArray.size]; omega
        rintro e W2 ⟨rfl, h2, b2, _⟩
        go_wp2
        go_roundg (gk - 1)
        case measure => have := Hg.out; omega
        case rel =>
          have := Hg.out
          refine ⟨k + 1, by omega, by omega, by go_num, ?_, hbw.trans b2⟩
          rw [HS.out _ HE.out]
          exact Or.inr h2
      by_cases h13 : (s[k].toNat : Int) = 13
      · have e13 : ((s[k].toNat : Int) == 13) = true := by simp [h13]
        have HE : Hid (P.esc s[k] = [92, 114]) := by rw [byte_of _ 13 (by decide) h13]; rfl
        have f34 : ((s[k].toNat : Int) == 34) = false := by simp; omega
        have f92 : ((s[k].toNat : Int) == 92) = false := by simp; omega
        have f8 : ((s[k].toNat : Int) == 8) = false := by simp; omega
        have f12 : ((s[k].toNat : Int) == 12) = false := by simp; omega
        have f10 : ((s[k].toNat : Int) == 10) = false := by simp; omega
        clear h34 h92 h8 h12 h10 h13
        go_wp2_with fail
        refine (Tryd.Builder_WriteString_k B b _ _ _ hI ?_ (by omega)).mono ?_
        · simp [ByteArray.size]; omega
        rintro e W2 ⟨rfl, h2, b2, _⟩
        go_wp2
        go_roundg (gk - 1)
        case measure => have := Hg.out; omega
        case rel =>
          have := Hg.out
          refine ⟨k + 1, by omega, by omega, by go_num, ?_, hbw.trans b2⟩
          rw [HS.out _ HE.out]
          exact Or.inr h2
      by_cases h9 : (s[k].toNat : Int) = 9
      · have e9 : ((s[k].toNat : Int) == 9) = true := by simp [h9]
        have HE : Hid (P.esc s[k] = [92, 116]) := by rw [byte_of _ 9 (by decide) h9]; rfl
        have f34 : ((s[k].toNat : Int) == 34) = false := by simp; omega
        have f92 : ((s[k].toNat : Int) == 92) = false := by simp; omega
        have f8 : ((s[k].toNat : Int) == 8) = false := by simp; omega
        have f12 : ((s[k].toNat : Int) == 12) = false := by simp; omega
        have f10 : ((s[k].toNat : Int) == 10) = false := by simp; omega
        have f13 : ((s[k].toNat : Int) == 13) = false := by simp; omega
        clear h34 h92 h8 h12 h10 h13 h9
        go_wp2_with fail
        refine (Tryd.Builder_WriteString_k B b _ _ _ hI ?_ (by omega)).mono ?_
        · simp [ByteArray.size]; omega
        rintro e W2 ⟨rfl, h2, b2, _⟩
        go_wp2
        go_roundg (gk - 1)
        case measure => have := Hg.out; omega
        case rel =>
          have := Hg.out
          refine ⟨k + 1, by omega, by omega, by go_num, ?_, hbw.trans b2⟩
          rw [HS.out _ HE.out]
          exact Or.inr h2
      have f34 : ((s[k].toNat : Int) == 34) = false := by simp; omega
      have f92 : ((s[k].toNat : Int) == 92) = false := by simp; omega
      have f8 : ((s[k].toNat : Int) == 8) = false := by simp; omega
      have f12 : ((s[k].toNat : Int) == 12) = false := by simp; omega
      have f10 : ((s[k].toNat : Int) == 10) = false := by simp; omega
      have f13 : ((s[k].toNat : Int) == 13) = false := by simp; omega
      have f9 : ((s[k].toNat : Int) == 9) = false := by simp; omega
      by_cases hc : (s[k].toNat : Int) < 32
      · have HE : Hid (P.esc s[k] = _) := esc_ctl s[k] hc h8 h9 h10 h12 h13
        clear h34 h92 h8 h12 h10 h13 h9
        go_wp2_with fail
        refine (Tryd.Builder_WriteString_k B b _ _ _ hI ?_ (by omega)).mono ?_
        · simp [ByteArray.size]; omega
        rintro e W2 ⟨rfl, h2, b2, _⟩
        go_wp2_with fail
        refine (Tryd.Builder_WriteByte_k B b _ _ _ (Or.inr h2) ?_ ?_).mono ?_
        · simp [Lib.strCells]; omega
        · have := b2.size; omega
        rintro e W3 ⟨rfl, h3, b3, _⟩
        go_wp2_with fail
        refine (Tryd.Builder_WriteByte_k B b _ _ _ (Or.inr h3) ?_ ?_).mono ?_
        · simp [Lib.strCells]; omega
        · have := b2.size; have := b3.size; omega
        rintro e W4 ⟨rfl, h4, b4, _⟩
        go_wp2
        go_roundg (gk - 1)
        case measure => have := Hg.out; omega
        case rel =>
          have := Hg.out
          refine ⟨k + 1, by omega, by omega, by go_num, ?_, ((hbw.trans b2).trans b3).trans b4⟩
          rw [HS.out _ HE.out, ctl_cells _ s[k].toNat (by show _ < 16; omega) (by show _ < 16; omega)]
          exact Or.inr h4
      · have HE : Hid (P.esc s[k] = _) := esc_plain s[k] hc h34 h92
        clear h34 h92 h8 h12 h10 h13 h9
        go_wp2_with fail
        refine (Tryd.Builder_WriteByte_k B b _ _ _ hI (by omega) (by omega)).mono ?_
        rintro e W2 ⟨rfl, h2, b2, _⟩
        go_wp2
        go_roundg (gk - 1)
        case measure => have := Hg.out; omega
        case rel =>
          have := Hg.out
          refine ⟨k + 1, by omega, by omega, by go_num, ?_, hbw.trans b2⟩
          rw [HS.out _ HE.out]
          exact Or.inr h2
    · have HE : Hid (Lib.byteCells (acc ++ P.lit s.data.toList) = _) := sofar_end acc s k hk hlt
      go_wp2_with fail
      refine (Tryd.Builder_WriteByte_k B b _ 34 _ hI (by omega) (by omega)).mono ?_
      rintro e W2 ⟨rfl, h2, b2, _⟩
      go_wp2
      go_end0
      rw [HE.out]
      exact ⟨rfl, Or.inr h2, hbw.trans b2⟩
end Go.Proofs.Qxb6601290aDoor
