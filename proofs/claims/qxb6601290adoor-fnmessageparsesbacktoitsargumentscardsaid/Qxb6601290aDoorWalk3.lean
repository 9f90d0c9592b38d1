/-
  THE WALK OF FnMessageParsesBackToItsArguments.
-/
import Derived.Test.Qxb6601290aDoorReader
import Derived.Lib.ItoaMem
namespace Go.Proofs.Qxb6601290aDoor
open Go.RowKit

/-- 'string(m)', m a row of bytes that begins its block. -/
theorem conv_back3 (w : World) (g cap : Nat) (M : List UInt8) (hcells : ∀ j (hj : j < M.length), w.cell? ⟨g, j, none⟩ = some (.int .u8 (M[j].toNat : Int))) :
    (convert 24 9 (.slice (some ⟨g, 0, none⟩) M.length cap)).run Tryd.prog w = .ok (.string ⟨M.toArray⟩) w := by
  refine run_convert_bytes_back (P := Tryd.prog) w 24 9 5 ⟨g, 0, none⟩ cap M Tryd.underlying24 Tryd.underlying5 Tryd.underlying9 (fun j hj => ?_)
  have hplain : (⟨g, 0, none⟩ : Addr).add j = ⟨g, j, none⟩ := by unfold Addr.add; split <;> simp_all
  rw [hplain]
  exact hcells j hj

theorem ba_eta (s : ByteArray) : (⟨s.data.toList.toArray⟩ : ByteArray) = s := by cases s; simp

set_option maxHeartbeats 1000000 in
set_option maxRecDepth 100000 in
theorem fn3_nil_big (n : Int) (nonce : ByteArray) (w : World) (hbig : ¬ (nonce.size : Int) ≤ 1048576) :
    Calls Tryd.prog 3 #[.int .i64 n, .string nonce, .pointer none] w fun e w' => e = .returned (.bool true) ∧ Below w.heap.size w w' := by
  go_enter Tryd.func3, Tryd.ntmps3
  go_wp2
  go_ret
  exact ⟨rfl, Below.refl _ _⟩

set_option maxHeartbeats 1000000 in
set_option maxRecDepth 100000 in
theorem fn3_ptr_big (n : Int) (nonce : ByteArray) (hb ho : Nat) (hash : ByteArray) (w : World) (hs : nonce.size ≤ maxLen) (hh : hash.size ≤ maxLen) (hcell : w.cell? ⟨hb, ho, none⟩ = some (.string hash))
    (hbig : ¬ (nonce.size : Int) + hash.size ≤ 1048576) :
    Calls Tryd.prog 3 #[.int .i64 n, .string nonce, .pointer (some ⟨hb, ho, none⟩)] w fun e w' => e = .returned (.bool true) ∧ Below w.heap.size w w' := by
  unfold maxLen at hs hh
  by_cases h1 : (nonce.size : Int) ≤ 1048576
  · by_cases h2 : (hash.size : Int) ≤ 1048576
    all_goals
      go_enter Tryd.func3, Tryd.ntmps3
      go_wp2
      go_ret
      exact ⟨rfl, Below.refl _ _⟩
  · go_enter Tryd.func3, Tryd.ntmps3
    go_wp2
    go_ret
    exact ⟨rfl, Below.refl _ _⟩

set_option maxHeartbeats 1000000 in
set_option maxRecDepth 100000 in
theorem fn3_nil (n : Int) (nonce : ByteArray) (w : World) (h0 : -9223372036854775808 ≤ n) (h1 : n ≤ 9223372036854775807) (hs : (nonce.size : Int) ≤ 1048576)
    (htab : Lib.TabIs Tryd.prog w Tryd.powN .u64 Lib.pow10Tab) :
    Calls Tryd.prog 3 #[.int .i64 n, .string nonce, .pointer none] w fun e w' => e = .returned (.bool true) ∧ Below w.heap.size w w' := by
  have HLn := msg_len n nonce.data.toList none h0 h1 (by show nonce.size ≤ _; omega) (fun l hl => by cases hl)
  go_enter Tryd.func3, Tryd.ntmps3
  go_wp2_with (go_at_call 5; go_in)
  refine (message_nil n nonce _ h0 h1 (by omega) htab).mono ?_
  rintro e W1 ⟨g, cap, rfl, hg0, hg1, hcells, b1⟩
  have kc2 := conv_back3 W1 g cap _ hcells
  have hrd := read_nil ⟨(msg n nonce.data.toList none).toArray⟩ n nonce.data.toList W1 h0 h1 (by simpa [ByteArray.size] using HLn) rfl
  rw [ba_eta] at hrd
  have HR : Hid _ := hrd
  clear hrd hcells htab
  go_wp2_with fail
  refine Calls.mono HR.out ?_
  rintro e W2 ⟨rfl, b2⟩
  go_wp2_with fail
  go_ret
  exact ⟨by simp, b1.trans (b2.mono b1.size)⟩

set_option maxHeartbeats 1000000 in
set_option maxRecDepth 100000 in
theorem fn3_ptr (n : Int) (nonce : ByteArray) (hb ho : Nat) (hash : ByteArray) (w : World) (h0 : -9223372036854775808 ≤ n) (h1 : n ≤ 9223372036854775807) (hs : (nonce.size : Int) + hash.size ≤ 1048576)
    (hcell : w.cell? ⟨hb, ho, none⟩ = some (.string hash))
    (htab : Lib.TabIs Tryd.prog w Tryd.powN .u64 Lib.pow10Tab) :
    Calls Tryd.prog 3 #[.int .i64 n, .string nonce, .pointer (some ⟨hb, ho, none⟩)] w fun e w' => e = .returned (.bool true) ∧ Below w.heap.size w w' := by
  have HLn := msg_len n nonce.data.toList (some hash.data.toList) h0 h1 (by show nonce.size ≤ _; omega) (fun l hl => by cases hl; show hash.size ≤ _; omega)
  go_enter Tryd.func3, Tryd.ntmps3
  go_wp2_with (go_at_call 5; go_in)
  refine (message_ptr n nonce w.heap.size 0 hash (w.alloc (.cells #[.string hash] 9)) h0 h1 (by omega) (by omega) (by simp) (by simp) (Lib.tabIs_alloc htab _)).mono ?_
  rintro e W1 ⟨g, cap, rfl, hg0, hg1, hcells, b1⟩
  have hc1 : W1.cell? ⟨w.heap.size, 0, none⟩ = some (.string hash) := by rw [b1.cell (by simp)]; simp
  have B1 : Below w.heap.size w W1 := ((Below.refl _ w).alloc (Nat.le_refl _) _).trans (b1.mono (by simp))
  have lt1 : w.heap.size < W1.heap.size := by have := b1.size; simp at this; omega
  have kc2 := conv_back3 W1 g cap _ hcells
  have hrd := read_ptr ⟨(msg n nonce.data.toList (some hash.data.toList)).toArray⟩ n nonce.data.toList hash.data.toList W1 h0 h1 (by simpa [ByteArray.size] using HLn) rfl
  rw [ba_eta, ba_eta] at hrd
  have HR : Hid _ := hrd
  clear hrd hcells htab b1 hcell
  go_wp2_with fail
  refine Calls.mono HR.out ?_
  rintro e W2 ⟨rfl, b2⟩
  have hc2 : W2.cell? ⟨w.heap.size, 0, none⟩ = some (.string hash) := by rw [b2.cell lt1]; exact hc1
  go_wp2_with fail
  go_ret
  exact ⟨by simp, B1.trans (b2.mono B1.size)⟩
end Go.Proofs.Qxb6601290aDoor
