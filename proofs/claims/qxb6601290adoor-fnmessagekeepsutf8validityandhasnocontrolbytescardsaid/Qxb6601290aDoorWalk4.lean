/-
  THE WALK OF FnMessageKeepsUTF8ValidityAndHasNoControlBytes.
-/
import Derived.Test.Qxb6601290aDoorLaw4
import Derived.Test.Qxb6601290aDoorValid
import Derived.Lib.ItoaMem
namespace Go.Proofs.Qxb6601290aDoor
open Go.RowKit

set_option maxHeartbeats 1000000 in
set_option maxRecDepth 100000 in
theorem fn4_nil_big (n : Int) (nonce : ByteArray) (w : World) (hbig : ¬ (nonce.size : Int) ≤ 1048576) :
    Calls Tryd.prog 4 #[.int .i64 n, .string nonce, .pointer none] w fun e w' => e = .returned (.bool true) ∧ Below w.heap.size w w' := by
  go_enter Tryd.func4, Tryd.ntmps4
  go_wp2
  go_ret
  exact ⟨rfl, Below.refl _ _⟩

/-- 'string(m)', m a row of bytes that begins its block. -/
theorem conv_back (w : World) (g cap : Nat) (M : List UInt8) (hcells : ∀ j (hj : j < M.length), w.cell? ⟨g, j, none⟩ = some (.int .u8 (M[j].toNat : Int))) :
    (convert 24 9 (.slice (some ⟨g, 0, none⟩) M.length cap)).run Tryd.prog w = .ok (.string ⟨M.toArray⟩) w := by
  refine run_convert_bytes_back (P := Tryd.prog) w 24 9 5 ⟨g, 0, none⟩ cap M Tryd.underlying24 Tryd.underlying5 Tryd.underlying9 (fun j hj => ?_)
  have hplain : (⟨g, 0, none⟩ : Addr).add j = ⟨g, j, none⟩ := by unfold Addr.add; split <;> simp_all
  rw [hplain]
  exact hcells j hj

set_option maxHeartbeats 1000000 in
set_option maxRecDepth 100000 in
theorem fn4_nil (n : Int) (nonce : ByteArray) (w : World) (h0 : -9223372036854775808 ≤ n) (h1 : n ≤ 9223372036854775807) (hs : (nonce.size : Int) ≤ 1048576)
    (htab : Lib.TabIs Tryd.prog w Tryd.powN .u64 Lib.pow10Tab) :
    Calls Tryd.prog 4 #[.int .i64 n, .string nonce, .pointer none] w fun e w' => e = .returned (.bool true) ∧ Below w.heap.size w w' := by
  have HV : Hid (P.valid (msg n nonce.data.toList none) = (P.valid nonce.data.toList && true)) := valid_msg n nonce.data.toList none
  have HG := msg_ge n nonce.data.toList none
  have HLn := msg_len n nonce.data.toList none h0 h1 (by show nonce.size ≤ _; omega) (fun l hl => by cases hl)
  go_enter Tryd.func4, Tryd.ntmps4
  go_wp2_with (go_at_call 8; go_in)
  refine (message_nil n nonce _ h0 h1 (by omega) htab).mono ?_
  rintro e W1 ⟨g, cap, rfl, hg0, hg1, hcells, b1⟩
  generalize msg n nonce.data.toList none = M at *
  have hge : ∀ k (hk : k < M.length), (32 : Int) ≤ (M[k].toNat : Int) := fun k hk => by
    have := HG _ (List.getElem_mem hk)
    omega
  have kc2 := conv_back W1 g cap M hcells
  clear HG htab h0 h1
  go_wp2_with fail
  go_loop [9] (fun i => ∃ k : Nat, k ≤ M.length ∧ i = .int .i64 k) (fun i => M.length - (intOf i).toNat)
  case atStart => exact ⟨0, Nat.zero_le _, rfl⟩
  case round =>
    obtain ⟨k, hk, rfl⟩ := hrel
    by_cases hlt : k < M.length
    · have hc := hcells k hlt
      have hb := hge k hlt
      clear hcells hge kc2
      go_wp2
      go_round
      case rel => exact ⟨k + 1, by omega, by go_num⟩
      case measure => simp [intOf]; omega
    · clear hcells hge
      have HVM : Hid (P.valid M = (P.valid nonce.data.toList && true)) := HV
      have hsz : (⟨M.toArray⟩ : ByteArray).size ≤ 16777216 := by simpa [ByteArray.size] using HLn
      cases hv : P.valid nonce.data.toList with
      | true =>
        have hvm : P.valid M = true := by rw [HVM.out, hv]; rfl
        go_wp2_with fail
        refine (valid_any nonce _ (by omega)).mono ?_
        rintro e w2 ⟨rfl, rfl⟩
        go_wp2_with fail
        refine (valid_any ⟨M.toArray⟩ _ hsz).mono ?_
        rintro e w2 ⟨rfl, rfl⟩
        go_wp2_with fail
        go_ret
        exact ⟨by simp, b1⟩
      | false =>
        have hvm : P.valid M = false := by rw [HVM.out, hv]; rfl
        go_wp2_with fail
        refine (valid_any nonce _ (by omega)).mono ?_
        rintro e w2 ⟨rfl, rfl⟩
        go_wp2_with fail
        refine (valid_any ⟨M.toArray⟩ _ hsz).mono ?_
        rintro e w2 ⟨rfl, rfl⟩
        go_wp2_with fail
        go_ret
        exact ⟨by simp, b1⟩

set_option maxHeartbeats 1000000 in
set_option maxRecDepth 100000 in
theorem fn4_ptr_big (n : Int) (nonce : ByteArray) (hb ho : Nat) (hash : ByteArray) (w : World) (hs : nonce.size ≤ maxLen) (hh : hash.size ≤ maxLen) (hcell : w.cell? ⟨hb, ho, none⟩ = some (.string hash))
    (hbig : ¬ (nonce.size : Int) + hash.size ≤ 1048576) :
    Calls Tryd.prog 4 #[.int .i64 n, .string nonce, .pointer (some ⟨hb, ho, none⟩)] w fun e w' => e = .returned (.bool true) ∧ Below w.heap.size w w' := by
  unfold maxLen at hs hh
  by_cases h1 : (nonce.size : Int) ≤ 1048576
  · by_cases h2 : (hash.size : Int) ≤ 1048576
    all_goals
      go_enter Tryd.func4, Tryd.ntmps4
      go_wp2
      go_ret
      exact ⟨rfl, Below.refl _ _⟩
  · go_enter Tryd.func4, Tryd.ntmps4
    go_wp2
    go_ret
    exact ⟨rfl, Below.refl _ _⟩

set_option maxHeartbeats 1000000 in
set_option maxRecDepth 100000 in
theorem fn4_ptr (n : Int) (nonce : ByteArray) (hb ho : Nat) (hash : ByteArray) (w : World) (h0 : -9223372036854775808 ≤ n) (h1 : n ≤ 9223372036854775807) (hs : (nonce.size : Int) + hash.size ≤ 1048576)
    (hcell : w.cell? ⟨hb, ho, none⟩ = some (.string hash))
    (htab : Lib.TabIs Tryd.prog w Tryd.powN .u64 Lib.pow10Tab) :
    Calls Tryd.prog 4 #[.int .i64 n, .string nonce, .pointer (some ⟨hb, ho, none⟩)] w fun e w' => e = .returned (.bool true) ∧ Below w.heap.size w w' := by
  have HV : Hid (P.valid (msg n nonce.data.toList (some hash.data.toList)) = (P.valid nonce.data.toList && P.valid hash.data.toList)) := valid_msg n nonce.data.toList (some hash.data.toList)
  have HG := msg_ge n nonce.data.toList (some hash.data.toList)
  have HLn := msg_len n nonce.data.toList (some hash.data.toList) h0 h1 (by show nonce.size ≤ _; omega) (fun l hl => by cases hl; show hash.size ≤ _; omega)
  go_enter Tryd.func4, Tryd.ntmps4
  go_wp2_with (go_at_call 8; go_in)
  refine (message_ptr n nonce w.heap.size 0 hash (w.alloc (.cells #[.string hash] 9)) h0 h1 (by omega) (by omega) (by simp) (by simp) (Lib.tabIs_alloc htab _)).mono ?_
  rintro e W1 ⟨g, cap, rfl, hg0, hg1, hcells, b1⟩
  have hc1 : W1.cell? ⟨w.heap.size, 0, none⟩ = some (.string hash) := by rw [b1.cell (by simp)]; simp
  have B1 : Below w.heap.size w W1 := ((Below.refl _ w).alloc (Nat.le_refl _) _).trans (b1.mono (by simp))
  clear b1 hcell
  generalize msg n nonce.data.toList (some hash.data.toList) = M at *
  have hge : ∀ k (hk : k < M.length), (32 : Int) ≤ (M[k].toNat : Int) := fun k hk => by
    have := HG _ (List.getElem_mem hk)
    omega
  have kc2 := conv_back W1 g cap M hcells
  clear HG htab h0 h1
  go_wp2_with fail
  go_loop [9] (fun i => ∃ k : Nat, k ≤ M.length ∧ i = .int .i64 k) (fun i => M.length - (intOf i).toNat)
  case atStart => exact ⟨0, Nat.zero_le _, rfl⟩
  case round =>
    obtain ⟨k, hk, rfl⟩ := hrel
    by_cases hlt : k < M.length
    · have hc := hcells k hlt
      have hbk := hge k hlt
      clear hcells hge kc2
      go_wp2
      go_round
      case rel => exact ⟨k + 1, by omega, by go_num⟩
      case measure => simp [intOf]; omega
    · clear hcells hge
      have hsz : (⟨M.toArray⟩ : ByteArray).size ≤ 16777216 := by simpa [ByteArray.size] using HLn
      cases hv : P.valid nonce.data.toList with
      | true =>
        have hvm : P.valid M = P.valid hash.data.toList := by rw [HV.out, hv]; rfl
        go_wp2_with fail
        refine (valid_any nonce _ (by omega)).mono ?_
        rintro e w2 ⟨rfl, rfl⟩
        go_wp2_with fail
        refine (valid_any hash _ (by omega)).mono ?_
        rintro e w2 ⟨rfl, rfl⟩
        go_wp2_with fail
        refine (valid_any ⟨M.toArray⟩ _ hsz).mono ?_
        rintro e w2 ⟨rfl, rfl⟩
        go_wp2_with fail
        go_ret
        exact ⟨by simp, B1⟩
      | false =>
        have hvm : P.valid M = false := by rw [HV.out, hv]; rfl
        go_wp2_with fail
        refine (valid_any nonce _ (by omega)).mono ?_
        rintro e w2 ⟨rfl, rfl⟩
        go_wp2_with fail
        refine (valid_any ⟨M.toArray⟩ _ hsz).mono ?_
        rintro e w2 ⟨rfl, rfl⟩
        go_wp2_with fail
        go_ret
        exact ⟨by simp, B1⟩
end Go.Proofs.Qxb6601290aDoor
