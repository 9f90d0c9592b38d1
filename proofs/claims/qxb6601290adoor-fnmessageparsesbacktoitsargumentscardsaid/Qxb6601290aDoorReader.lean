/-
  THE WALK OF parseMessageB1: the message is read back.
-/
import Derived.Test.Qxb6601290aDoorParse
import Derived.Test.Qxb6601290aDoorScan
import Derived.Test.Qxb6601290aDoorDecode
import Derived.Test.Qxb6601290aDoorMessage
import Derived.Lib.Strings
namespace Go.Proofs.Qxb6601290aDoor
open Go.RowKit

theorem expect_no_at (m t : ByteArray) (i : Int) (a : List UInt8) (x : UInt8) (c : List UInt8) (w : World) (hm : m.data.toList = a ++ ([x] ++ c)) (hi : i = a.length) (hms : m.size ≤ 16777216) (ht : 0 < t.size) (hts : t.size ≤ 64) (hne : x.toNat ≠ t[0].toNat) :
    Calls Tryd.prog 14 #[.string m, .int .i64 i, .string t] w fun e w' => e = .returned (.tuple #[.int .i64 0, .bool false]) ∧ Below w.heap.size w w' := by
  subst hi
  obtain ⟨h, e⟩ := mid_at m a [x] c hm 0 (by simp)
  have e' : m[a.length]'h = x := e
  exact expect_no m t a.length w hms h ht hts (by rw [e']; exact hne)

/-- The bytes between two places. -/
theorem cut_list (m : ByteArray) (a l c : List UInt8) (hm : m.data.toList = a ++ (l ++ c)) (i j : Nat) (hi : i = a.length) (hj : j = (a ++ l).length) : (m.extract i j).data.toList = l := by
  subst hi hj
  rw [ByteArray.data_extract, Array.toList_extract, hm]
  simp [List.extract]

set_option maxHeartbeats 1000000 in
set_option maxRecDepth 100000 in
theorem read_nil (m : ByteArray) (n : Int) (nonce : List UInt8) (w : World) (h0 : -9223372036854775808 ≤ n) (h1 : n ≤ 9223372036854775807) (hms : m.size ≤ 16777216) (hm : m.data.toList = msg n nonce none) :
    Calls Tryd.prog 7 #[.string m] w fun e w' => e = .returned (.tuple #[.int .i64 n, .string ⟨nonce.toArray⟩, .bool true, .string ⟨#[]⟩, .bool true]) ∧ Below w.heap.size w w' := by
  have HM : Hid (m.data.toList = msg n nonce none) := hm
  have hms' : m.size = (msg n nonce none).length := by rw [← hm]; rfl
  have HZ : Hid (m.size = (msg n nonce none).length) := hms'
  clear hm hms'
  go_enter Tryd.func7, Tryd.ntmps7
  go_wp2_with fail
  refine (expect_yes m _ 0 [] s1 (Lib.itoa n ++ s2 ++ P.lit nonce ++ s3 ++ nul ++ [125]) _ (by rw [HM.out, msg, hpart]; simp) rfl rfl hms).mono ?_
  rintro e W1 ⟨j1, rfl, hj1, b1⟩
  have J1 : Hid (j1 = ([] ++ s1).length) := hj1
  clear hj1
  go_wp2_with fail
  refine (parse_any m j1 n ([] ++ s1) (s2.tail ++ P.lit nonce ++ s3 ++ nul ++ [125]) _ h0 h1 (by rw [HM.out, msg, hpart]; simp [s2]) J1.out hms).mono ?_
  rintro e W2 ⟨j2, rfl, hj2, rfl⟩
  have J2 : Hid (j2 = ([] ++ s1 ++ Lib.itoa n).length) := hj2
  clear hj2 J1
  go_wp2_with fail
  refine (expect_yes m _ j2 ([] ++ s1 ++ Lib.itoa n) s2 (P.lit nonce ++ s3 ++ nul ++ [125]) _ (by rw [HM.out, msg, hpart]; simp) rfl J2.out hms).mono ?_
  rintro e W3 ⟨j3, rfl, hj3, b3⟩
  have J3 : Hid (j3 = ([] ++ s1 ++ Lib.itoa n ++ s2).length) := hj3
  clear hj3 J2
  go_wp2_with fail
  refine (scan_any m j3 ([] ++ s1 ++ Lib.itoa n ++ s2) nonce (s3 ++ nul ++ [125]) _ (by rw [HM.out, msg, hpart]; simp) J3.out hms).mono ?_
  rintro e W4 ⟨j4, rfl, hj4, rfl⟩
  have J4 : Hid (j4 = ([] ++ s1 ++ Lib.itoa n ++ s2 ++ P.lit nonce).length) := hj4
  clear hj4
  have p3 : 0 ≤ j3 := by have := J3.out; omega
  have p4 : j3 ≤ j4 := by have := J3.out; have := J4.out; simp only [List.length_append] at *; omega
  have p4' : 0 ≤ j4 := by omega
  have p5 : j4 ≤ m.size := by have := J4.out; have := HZ.out; simp only [msg, hpart, List.length_append, List.length_nil] at *; omega
  have hcut : (m.extract j3.toNat j4.toNat).data.toList = P.lit nonce := cut_list m ([] ++ s1 ++ Lib.itoa n ++ s2) (P.lit nonce) (s3 ++ nul ++ [125]) (by rw [HM.out, msg, hpart]; simp) _ _ (by have := J3.out; omega) (by have := J4.out; omega)
  have HCut : Hid ((m.extract j3.toNat j4.toNat).data.toList = P.lit nonce) := hcut
  have hcs : (m.extract j3.toNat j4.toNat).size ≤ 16777216 := by rw [ByteArray.size_extract]; omega
  clear hcut J3
  go_wp2_with fail
  refine (decode_walk _ nonce _ hcs HCut.out).mono ?_
  rintro e W5 ⟨rfl, b5⟩
  clear HCut hcs p3 p4 p4' p5
  go_wp2_with fail
  refine (expect_yes m _ j4 ([] ++ s1 ++ Lib.itoa n ++ s2 ++ P.lit nonce) s3 (nul ++ [125]) _ (by rw [HM.out, msg, hpart]; simp) rfl J4.out hms).mono ?_
  rintro e W6 ⟨j6, rfl, hj6, b6⟩
  have J6 : Hid (j6 = ([] ++ s1 ++ Lib.itoa n ++ s2 ++ P.lit nonce ++ s3).length) := hj6
  have c6 : Below w.heap.size w W6 := ((b1.trans (b3.mono b1.size)).trans (b5.mono (Nat.le_trans b1.size b3.size))).trans (b6.mono (Nat.le_trans (Nat.le_trans b1.size b3.size) b5.size))
  clear hj6 J4 b1 b3 b5 b6
  go_wp2_with fail
  refine (expect_yes m _ j6 ([] ++ s1 ++ Lib.itoa n ++ s2 ++ P.lit nonce ++ s3) nul [125] _ (by rw [HM.out, msg, hpart]; simp) rfl J6.out hms).mono ?_
  rintro e W7 ⟨j7, rfl, hj7, b7⟩
  have J7 : Hid (j7 = ([] ++ s1 ++ Lib.itoa n ++ s2 ++ P.lit nonce ++ s3 ++ nul).length) := hj7
  have c7 : Below w.heap.size w W7 := c6.trans (b7.mono c6.size)
  clear hj7 J6 c6 b7
  go_wp2_with fail
  refine (expect_yes m _ j7 ([] ++ s1 ++ Lib.itoa n ++ s2 ++ P.lit nonce ++ s3 ++ nul) [125] [] _ (by rw [HM.out, msg, hpart]; simp) rfl J7.out hms).mono ?_
  rintro e W8 ⟨j8, rfl, hj8, b8⟩
  have e8 : (j8 != (m.size : Int)) = false := by
    have hz := HZ.out
    have : j8 = (m.size : Int) := by rw [hj8, hz, msg, hpart]; simp
    simp [this]
  clear hj8
  go_wp2_with fail
  exact bodyPost_ret (v := .tuple #[.int .i64 n, .string ⟨nonce.toArray⟩, .bool true, .string ⟨#[]⟩, .bool true]) (by simp [results, Tryd.results7, go_sem]) rfl ⟨rfl, c7.trans (b8.mono c7.size)⟩

set_option maxHeartbeats 1000000 in
set_option maxRecDepth 100000 in
theorem read_ptr (m : ByteArray) (n : Int) (nonce hash : List UInt8) (w : World) (h0 : -9223372036854775808 ≤ n) (h1 : n ≤ 9223372036854775807) (hms : m.size ≤ 16777216) (hm : m.data.toList = msg n nonce (some hash)) :
    Calls Tryd.prog 7 #[.string m] w fun e w' => e = .returned (.tuple #[.int .i64 n, .string ⟨nonce.toArray⟩, .bool false, .string ⟨hash.toArray⟩, .bool true]) ∧ Below w.heap.size w w' := by
  have HM : Hid (m.data.toList = msg n nonce (some hash)) := hm
  have hms' : m.size = (msg n nonce (some hash)).length := by rw [← hm]; rfl
  have HZ : Hid (m.size = (msg n nonce (some hash)).length) := hms'
  clear hm hms'
  go_enter Tryd.func7, Tryd.ntmps7
  go_wp2_with fail
  refine (expect_yes m _ 0 [] s1 (Lib.itoa n ++ s2 ++ P.lit nonce ++ s3 ++ P.lit hash ++ [125]) _ (by rw [HM.out, msg, hpart]; simp) rfl rfl hms).mono ?_
  rintro e W1 ⟨j1, rfl, hj1, b1⟩
  have J1 : Hid (j1 = ([] ++ s1).length) := hj1
  clear hj1
  go_wp2_with fail
  refine (parse_any m j1 n ([] ++ s1) (s2.tail ++ P.lit nonce ++ s3 ++ P.lit hash ++ [125]) _ h0 h1 (by rw [HM.out, msg, hpart]; simp [s2]) J1.out hms).mono ?_
  rintro e W2 ⟨j2, rfl, hj2, rfl⟩
  have J2 : Hid (j2 = ([] ++ s1 ++ Lib.itoa n).length) := hj2
  clear hj2 J1
  go_wp2_with fail
  refine (expect_yes m _ j2 ([] ++ s1 ++ Lib.itoa n) s2 (P.lit nonce ++ s3 ++ P.lit hash ++ [125]) _ (by rw [HM.out, msg, hpart]; simp) rfl J2.out hms).mono ?_
  rintro e W3 ⟨j3, rfl, hj3, b3⟩
  have J3 : Hid (j3 = ([] ++ s1 ++ Lib.itoa n ++ s2).length) := hj3
  clear hj3 J2
  go_wp2_with fail
  refine (scan_any m j3 ([] ++ s1 ++ Lib.itoa n ++ s2) nonce (s3 ++ P.lit hash ++ [125]) _ (by rw [HM.out, msg, hpart]; simp) J3.out hms).mono ?_
  rintro e W4 ⟨j4, rfl, hj4, rfl⟩
  have J4 : Hid (j4 = ([] ++ s1 ++ Lib.itoa n ++ s2 ++ P.lit nonce).length) := hj4
  clear hj4
  have p3 : 0 ≤ j3 := by have := J3.out; omega
  have p4 : j3 ≤ j4 := by have := J3.out; have := J4.out; simp only [List.length_append] at *; omega
  have p4' : 0 ≤ j4 := by omega
  have p5 : j4 ≤ m.size := by have := J4.out; have := HZ.out; simp only [msg, hpart, List.length_append, List.length_nil] at *; omega
  have hcut : (m.extract j3.toNat j4.toNat).data.toList = P.lit nonce := cut_list m ([] ++ s1 ++ Lib.itoa n ++ s2) (P.lit nonce) (s3 ++ P.lit hash ++ [125]) (by rw [HM.out, msg, hpart]; simp) _ _ (by have := J3.out; omega) (by have := J4.out; omega)
  have HCut : Hid ((m.extract j3.toNat j4.toNat).data.toList = P.lit nonce) := hcut
  have hcs : (m.extract j3.toNat j4.toNat).size ≤ 16777216 := by rw [ByteArray.size_extract]; omega
  clear hcut J3
  go_wp2_with fail
  refine (decode_walk _ nonce _ hcs HCut.out).mono ?_
  rintro e W5 ⟨rfl, b5⟩
  clear HCut hcs p3 p4 p4' p5
  go_wp2_with fail
  refine (expect_yes m _ j4 ([] ++ s1 ++ Lib.itoa n ++ s2 ++ P.lit nonce) s3 (P.lit hash ++ [125]) _ (by rw [HM.out, msg, hpart]; simp) rfl J4.out hms).mono ?_
  rintro e W6 ⟨j6, rfl, hj6, b6⟩
  have J6 : Hid (j6 = ([] ++ s1 ++ Lib.itoa n ++ s2 ++ P.lit nonce ++ s3).length) := hj6
  have c6 : Below w.heap.size w W6 := ((b1.trans (b3.mono b1.size)).trans (b5.mono (Nat.le_trans b1.size b3.size))).trans (b6.mono (Nat.le_trans (Nat.le_trans b1.size b3.size) b5.size))
  clear hj6 J4 b1 b3 b5 b6
  go_wp2_with fail
  refine (expect_no_at m _ j6 ([] ++ s1 ++ Lib.itoa n ++ s2 ++ P.lit nonce ++ s3) 34 (P.escs hash ++ [34] ++ [125]) _ (by rw [HM.out, msg, hpart]; simp [P.lit]) J6.out hms (by decide) (by decide) (by decide)).mono ?_
  rintro e W9 ⟨rfl, b9⟩
  go_wp2_with fail
  refine (scan_any m j6 ([] ++ s1 ++ Lib.itoa n ++ s2 ++ P.lit nonce ++ s3) hash [125] _ (by rw [HM.out, msg, hpart]; simp) J6.out hms).mono ?_
  rintro e W10 ⟨j7, rfl, hj7, rfl⟩
  have J7 : Hid (j7 = ([] ++ s1 ++ Lib.itoa n ++ s2 ++ P.lit nonce ++ s3 ++ P.lit hash).length) := hj7
  clear hj7
  have p3 : 0 ≤ j6 := by have := J6.out; omega
  have p4 : j6 ≤ j7 := by have := J6.out; have := J7.out; simp only [List.length_append] at *; omega
  have p4' : 0 ≤ j7 := by omega
  have p5 : j7 ≤ m.size := by have := J7.out; have := HZ.out; simp only [msg, hpart, List.length_append, List.length_nil] at *; omega
  have hcut : (m.extract j6.toNat j7.toNat).data.toList = P.lit hash := cut_list m ([] ++ s1 ++ Lib.itoa n ++ s2 ++ P.lit nonce ++ s3) (P.lit hash) [125] (by rw [HM.out, msg, hpart]; simp) _ _ (by have := J6.out; omega) (by have := J7.out; omega)
  have HCut : Hid ((m.extract j6.toNat j7.toNat).data.toList = P.lit hash) := hcut
  have hcs : (m.extract j6.toNat j7.toNat).size ≤ 16777216 := by rw [ByteArray.size_extract]; omega
  clear hcut J6
  go_wp2_with fail
  refine (decode_walk _ hash _ hcs HCut.out).mono ?_
  rintro e W7 ⟨rfl, b7⟩
  clear HCut hcs p3 p4 p4' p5
  have c9 := c6.trans (b9.mono c6.size)
  have c7 : Below w.heap.size w W7 := c9.trans (b7.mono c9.size)
  clear c6 b9 c9 b7
  go_wp2_with fail
  refine (expect_yes m _ j7 ([] ++ s1 ++ Lib.itoa n ++ s2 ++ P.lit nonce ++ s3 ++ P.lit hash) [125] [] _ (by rw [HM.out, msg, hpart]; simp) rfl J7.out hms).mono ?_
  rintro e W8 ⟨j8, rfl, hj8, b8⟩
  have e8 : (j8 != (m.size : Int)) = false := by
    have hz := HZ.out
    have : j8 = (m.size : Int) := by rw [hj8, hz, msg, hpart]; simp
    simp [this]
  clear hj8
  go_wp2_with fail
  exact bodyPost_ret (v := .tuple #[.int .i64 n, .string ⟨nonce.toArray⟩, .bool false, .string ⟨hash.toArray⟩, .bool true]) (by simp [results, Tryd.results7, go_sem]) rfl ⟨rfl, c7.trans (b8.mono c7.size)⟩

end Go.Proofs.Qxb6601290aDoor
