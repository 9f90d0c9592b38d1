/-
  FNV: the plain digest, and the model.
-/
import Derived.Test.Qxb6002368aRec
namespace Go.Proofs.Qxb6002368a
open Go.RowKit

/-- One byte. -/
def stp (h : Int) (b : UInt8) : Int := IntKind.u64.wrap (bits BinOp.xor IntKind.u64 h b.toNat * 1099511628211)
/-- All bytes. -/
def fed (h : Int) (l : List UInt8) : Int := l.foldl stp h
theorem stp_bnd (h : Int) (b : UInt8) : 0 ≤ stp h b ∧ stp h b ≤ 18446744073709551615 := by
  unfold stp
  rw [IntKind.wrap_u64]
  omega
theorem fed_bnd : ∀ (l : List UInt8) (h : Int), 0 ≤ h → h ≤ 18446744073709551615 → 0 ≤ fed h l ∧ fed h l ≤ 18446744073709551615
  | [], _, h0, h1 => ⟨h0, h1⟩
  | b :: l, h, _, _ => fed_bnd l (stp h b) (stp_bnd h b).1 (stp_bnd h b).2
theorem fed_succ (h : Int) (l : List UInt8) (k : Nat) (hk : k < l.length) : fed h (l.take (k + 1)) = stp (fed h (l.take k)) l[k] := by
  unfold fed
  rw [List.take_succ_eq_append_getElem hk, List.foldl_append]
  rfl
theorem fed_append (h : Int) (a b : List UInt8) : fed h (a ++ b) = fed (fed h a) b := by
  unfold fed
  rw [List.foldl_append]

/-- Byte j of the digest, the greatest first. -/
def dval (H : Int) (j : Nat) : Int := H / (256 ^ (7 - j) : Nat) % 256
def dig (H : Int) : List UInt8 := (List.range 8).map fun j => UInt8.ofNat (dval H j).toNat
theorem dval_bnd (H : Int) (j : Nat) : 0 ≤ dval H j ∧ dval H j < 256 := by unfold dval; omega
theorem dig_len (H : Int) : (dig H).length = 8 := by simp [dig]
theorem dig_at (H : Int) (j : Nat) (hj : j < (dig H).length) : ((dig H)[j].toNat : Int) = dval H j := by
  have hb := dval_bnd H j
  simp only [dig, List.getElem_map, List.getElem_range]
  rw [UInt8.toNat_ofNat', Nat.mod_eq_of_lt (by omega)]
  omega
theorem dig_take (H : Int) (j : Nat) (hj : j < 8) : Lib.byteCells ((dig H).take (j + 1)) = Lib.byteCells ((dig H).take j) ++ [.int .u8 (dval H j)] := by
  have hj' : j < (dig H).length := by rw [dig_len]; exact hj
  rw [List.take_succ_eq_append_getElem hj', Lib.byteCells_append]
  simp only [Lib.byteCells, List.map_cons, List.map_nil, dig_at]

theorem dv0 (H : Int) (h0 : 0 ≤ H) (h1 : H ≤ 18446744073709551615) : dval H 0 = H / 72057594037927936 := by
  have e : dval H 0 = H / 72057594037927936 % 256 := rfl
  rw [e]; omega
theorem dv1 (H : Int) : dval H 1 = H / 281474976710656 % 256 := rfl
theorem dv2 (H : Int) : dval H 2 = H / 1099511627776 % 256 := rfl
theorem dv3 (H : Int) : dval H 3 = H / 4294967296 % 256 := rfl
theorem dv4 (H : Int) : dval H 4 = H / 16777216 % 256 := rfl
theorem dv5 (H : Int) : dval H 5 = H / 65536 % 256 := rfl
theorem dv6 (H : Int) : dval H 6 = H / 256 % 256 := rfl
theorem dv7 (H : Int) : dval H 7 = H % 256 := by
  have e : dval H 7 = H / 1 % 256 := rfl
  rw [e, Int.ediv_one]

theorem dig_str (H : Int) (w : World) (h0 : 0 ≤ H) (h1 : H ≤ 18446744073709551615) :
    (convert 35 9 (.slice (some ⟨w.heap.size, 0, none⟩) 8 8)).run Try.prog (w.alloc (.cells #[.int .u8 (H / 72057594037927936), .int .u8 (H / 281474976710656 % 256), .int .u8 (H / 1099511627776 % 256), .int .u8 (H / 4294967296 % 256), .int .u8 (H / 16777216 % 256), .int .u8 (H / 65536 % 256), .int .u8 (H / 256 % 256), .int .u8 (H % 256)] 44))
      = .ok (.string ⟨(dig H).toArray⟩) (w.alloc (.cells #[.int .u8 (H / 72057594037927936), .int .u8 (H / 281474976710656 % 256), .int .u8 (H / 1099511627776 % 256), .int .u8 (H / 4294967296 % 256), .int .u8 (H / 16777216 % 256), .int .u8 (H / 65536 % 256), .int .u8 (H / 256 % 256), .int .u8 (H % 256)] 44)) := by
  have e := run_convert_bytes_back (P := Try.prog) (w.alloc (.cells #[.int .u8 (H / 72057594037927936), .int .u8 (H / 281474976710656 % 256), .int .u8 (H / 1099511627776 % 256), .int .u8 (H / 4294967296 % 256), .int .u8 (H / 16777216 % 256), .int .u8 (H / 65536 % 256), .int .u8 (H / 256 % 256), .int .u8 (H % 256)] 44)) 35 9 5 ⟨w.heap.size, 0, none⟩ 8 (dig H) Try.underlying35 Try.underlying5 Try.underlying9 (by
    intro j hj
    rw [dig_at]
    rw [dig_len] at hj
    rcases (by omega : j = 0 ∨ j = 1 ∨ j = 2 ∨ j = 3 ∨ j = 4 ∨ j = 5 ∨ j = 6 ∨ j = 7) with rfl | rfl | rfl | rfl | rfl | rfl | rfl | rfl
    · rw [dv0 H h0 h1]; simp [Addr.add]
    · rw [dv1]; simp [Addr.add]
    · rw [dv2]; simp [Addr.add]
    · rw [dv3]; simp [Addr.add]
    · rw [dv4]; simp [Addr.add]
    · rw [dv5]; simp [Addr.add]
    · rw [dv6]; simp [Addr.add]
    · rw [dv7]; simp [Addr.add])
  rw [dig_len] at e
  exact e

set_option maxHeartbeats 2000000 in
set_option maxRecDepth 100000 in
theorem model (s : ByteArray) (w : World) (hl : s.size ≤ 1048576) :
    Calls Try.prog 11 #[.string s] w fun e w' => e = .returned (.string ⟨(dig (fed 14695981039346656037 s.data.toList)).toArray⟩) ∧ Below w.heap.size w w' := by
  go_enter Try.func11, Try.ntmps11
  go_wp2_with fail
  go_loopg [3, 4] s.size (fun g hh i wr => ∃ (k : Nat), g + k = s.size ∧ k ≤ s.size ∧ i = .int .i64 k ∧ hh = .int .u64 (fed 14695981039346656037 (s.data.toList.take k)) ∧ w = wr)
  case atStart => exact ⟨0, rfl, Nat.zero_le _, rfl, rfl, rfl⟩
  case round =>
    obtain ⟨k, hg, hk, rfl, rfl, rfl⟩ := hrel
    have Hg : Hid (gk + k = s.size) := hg
    clear hg
    by_cases hlt : k < s.size
    · have HF : Hid (fed 14695981039346656037 (s.data.toList.take (k + 1)) = stp (fed 14695981039346656037 (s.data.toList.take k)) (s[k]'hlt)) := fed_succ _ s.data.toList k hlt
      obtain ⟨h0, h1⟩ := fed_bnd (s.data.toList.take k) 14695981039346656037 (by decide) (by decide)
      generalize fed 14695981039346656037 (s.data.toList.take k) = H at *
      generalize hc : (s[k]'hlt) = c at HF
      have hcb := c.toNat_lt
      go_wp2_with fail
      go_roundg (gk - 1)
      case measure => have := Hg.out; omega
      case rel => have := Hg.out; exact ⟨k + 1, by omega, by omega, by go_num, by rw [HF.out]; rfl, rfl⟩
    · obtain rfl : k = s.size := by omega
      have hT : s.data.toList.take s.size = s.data.toList := List.take_length
      rw [hT]
      obtain ⟨h0, h1⟩ := fed_bnd s.data.toList 14695981039346656037 (by decide) (by decide)
      generalize hH : fed 14695981039346656037 s.data.toList = H at *
      have HH : Hid (fed 14695981039346656037 s.data.toList = H) := hH
      clear hT hlt hk Hg hH
      go_wp2_with fail
      have hcv := dig_str H w h0 h1
      refine wp_loop_rounds 9 ?_
      iterate 9
        rw [rounds_succ]
        go_wp2_with fail
      go_ret
      exact ⟨by rw [HH.out]; rfl, (Below.refl _ w).alloc (Nat.le_refl _) _⟩
end Go.Proofs.Qxb6002368a
