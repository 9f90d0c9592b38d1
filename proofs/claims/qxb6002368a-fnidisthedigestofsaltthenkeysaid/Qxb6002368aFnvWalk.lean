/-
  FNV: the stand-in hash.
-/
import Derived.Test.Qxb6002368aFnv
namespace Go.Proofs.Qxb6002368a
open Go.RowKit

/-- The stand-in at b holds h. -/
def FnvIs (B : Nat) (w : World) (b : Nat) (h : Int) : Prop := B ≤ b ∧ w.heap[b]? = some (.cells #[.int .u64 h] 43 (0, 0))
theorem FnvIs.stays {B b : Nat} {w w' : World} {h : Int} (hF : FnvIs B w b h) (hb : Below w.heap.size w w') : FnvIs B w' b h :=
  ⟨hF.1, (hb.block b (heap_lt hF.2)).trans hF.2⟩

theorem one_new5 (w : World) (x : Value) : ∀ j u, [x][j]? = some u → (w.alloc (.cells #[x] 5)).cell? ((⟨w.heap.size, 0, none⟩ : Addr).add j) = some u := by
  intro j u hj
  match j, hj with
  | 0, hj =>
    simp at hj
    subst hj
    simp [Addr.add]
/-- Only block b has changed. -/
structure But (b : Nat) (w w' : World) : Prop where
  os : w'.os = w.os
  tape : w'.tape = w.tape
  output : w'.output = w.output
  size : w.heap.size = w'.heap.size
  block : ∀ k, k ≠ b → w'.heap[k]? = w.heap[k]?
theorem But.below {b B : Nat} {w w' : World} (h : But b w w') (hB : B ≤ b) : Below B w w' := ⟨h.os, h.tape, h.output, Nat.le_of_eq h.size, fun k hk => h.block k (by omega)⟩

theorem twice {b : Nat} {w : World} {v0 : Value} (h : w.heap[b]? = some (.cells #[v0] 43 (0, 0))) (v1 v2 : Value) : (((w.setCell ⟨b, 0, none⟩ v1).setCell ⟨b, 0, none⟩ v2).drew).heap[b]? = some (.cells #[v2] 43 (0, 0)) :=
  Lib.heap_setCell_same (i := 0) (Lib.heap_setCell_same (i := 0) h v1) v2
theorem but_twice {b : Nat} {w0 w : World} (h : But b w0 w) (v1 v2 : Value) : But b w0 (((w.setCell ⟨b, 0, none⟩ v1).setCell ⟨b, 0, none⟩ v2).drew) :=
  ⟨h.os, h.tape, h.output, by rw [h.size]; simp, fun k hk => by
    have e1 := Below.heap_setCell (w.setCell ⟨b, 0, none⟩ v1) ⟨b, 0, none⟩ v2 k hk
    have e2 := Below.heap_setCell w ⟨b, 0, none⟩ v1 k hk
    exact e1.trans (e2.trans (h.block k hk))⟩

set_option maxHeartbeats 2000000 in
set_option maxRecDepth 100000 in
theorem writeF (B b : Nat) (h : Int) (q : List UInt8) (pb : Nat) (pc : Nat) (w : World) (hF : FnvIs B w b h) (h0 : 0 ≤ h) (h1 : h ≤ 18446744073709551615) (hpb : pb ≠ b)
    (hq : ∀ j (hj : j < q.length), w.cell? ⟨pb, j, none⟩ = some (.int .u8 (q[j].toNat : Int))) (hl : q.length ≤ 1048576) :
    Calls Try.prog 37 #[.pointer (some ⟨b, 0, none⟩), .slice (some ⟨pb, 0, none⟩) q.length pc] w fun e w' => (∃ x y, e = .returned (.tuple #[x, y])) ∧ FnvIs B w' b (fed h q) ∧ Below B w w' := by
  obtain ⟨hB, hb⟩ := hF
  have HQ : Hid (∀ j (hj : j < q.length), w.cell? ⟨pb, j, none⟩ = some (.int .u8 (q[j].toNat : Int))) := hq
  clear hq
  go_enter Try.func37, Try.ntmps37
  go_wp2_with fail
  go_loopg [6] q.length (fun g i wr => ∃ (k : Nat), g + k = q.length ∧ k ≤ q.length ∧ i = .int .i64 k ∧ wr.heap[b]? = some (.cells #[.int .u64 (fed h (q.take k))] 43 (0, 0)) ∧ But b w wr)
  case atStart => exact ⟨0, rfl, Nat.zero_le _, rfl, hb, ⟨rfl, rfl, rfl, rfl, fun _ _ => rfl⟩⟩
  case round =>
    obtain ⟨k, hg, hk, rfl, hbk, hbut⟩ := hrel
    have Hg : Hid (gk + k = q.length) := hg
    have HBK : Hid (wr.heap[b]? = some (.cells #[.int .u64 (fed h (q.take k))] 43 (0, 0))) := hbk
    have HBut : Hid (But b w wr) := hbut
    have hc1 : wr.cell? ⟨b, 0, none⟩ = some (.int .u64 (fed h (q.take k))) := by simp [World.cell?, hbk]
    have hf1 : wr.frozen? ⟨b, 0, none⟩ = false := by simp [World.frozen?, hbk]
    clear hg hbk hbut
    by_cases hlt : k < q.length
    · have HF : Hid (fed h (q.take (k + 1)) = stp (fed h (q.take k)) q[k]) := fed_succ _ q k hlt
      have hcq : wr.cell? ⟨pb, k, none⟩ = some (.int .u8 (q[k].toNat : Int)) := (World.cell?_of_block (w := w) (HBut.out.block pb hpb)).trans (HQ.out k hlt)
      obtain ⟨g0, g1⟩ := fed_bnd (q.take k) h h0 h1
      generalize q[k] = c at *
      have hcb := c.toNat_lt
      generalize fed h (q.take k) = H at *
      have t1 : (k : Int) < (q.length : Int) := by omega
      have t2 : (0 : Int) ≤ (k : Int) := by omega
      have t3 : ((k : Int)).toNat = k := by omega
      go_wp2_with fail
      go_region
      go_wp2_with fail
      have HN : Hid _ := twice HBK.out (.int .u64 (bits BinOp.xor IntKind.u64 H c.toNat)) (.int .u64 (stp H c))
      have HBN : Hid _ := but_twice HBut.out (.int .u64 (bits BinOp.xor IntKind.u64 H c.toNat)) (.int .u64 (stp H c))
      go_roundg (gk - 1)
      case measure => have := Hg.out; omega
      case rel => have := Hg.out; exact ⟨k + 1, by omega, by omega, by go_num, by rw [HF.out]; exact HN.out, HBN.out⟩
    · obtain rfl : k = q.length := by omega
      go_wp2_with fail
      go_ret2
      have e := HBK.out
      rw [List.take_length] at e
      exact ⟨⟨_, _, rfl⟩, ⟨hB, e⟩, HBut.out.below hB⟩

set_option maxHeartbeats 1000000 in
set_option maxRecDepth 100000 in
theorem strF (B b : Nat) (h : Int) (s : ByteArray) (w : World) (hF : FnvIs B w b h) (h0 : 0 ≤ h) (h1 : h ≤ 18446744073709551615) (hl : s.size ≤ 1048576) : Calls Try.prog 12 #[.iface 40 (.pointer (some ⟨b, 0, none⟩)), .string s] w fun e w' => (∃ x, e = .returned (.tuple x)) ∧ FnvIs B w' b (fed h s.data.toList) ∧ Below B w w' := by
  have t := fun w => ta40 (.pointer (some ⟨b, 0, none⟩)) 47 w
  have hcv := fun w => Lib.run_convert_string_bytes (P := Try.prog) w 9 35 5 s Try.underlying9 Try.underlying35 Try.underlying5
  have hme := fun w => method_w40 ⟨b, 0, none⟩ w
  have hbw := Lib.bytesWorld_below w 5 s
  have hbl := heap_lt hF.2
  have hBs : B ≤ w.heap.size := by have := hF.1; omega
  have W := writeF B b h s.data.toList w.heap.size (grownCap w s.size 0 5) (Lib.bytesWorld w 5 s) (hF.stays hbw) h0 h1 (by omega) (fun j hj => by
    have hj' : j < s.size := hj
    have hc := Lib.bytesWorld_cell w 5 s j hj'
    rw [hc]
    simp only [List.getD, List.getElem?_eq_getElem hj, Option.getD_some]) hl
  have HW : Hid _ := W
  have HBW : Hid (Below B w (Lib.bytesWorld w 5 s)) := hbw.mono hBs
  clear W hbw hF
  go_enter Try.func12, Try.ntmps12
  go_wp2_with fail
  refine Calls.mono HW.out ?_
  rintro e w' ⟨⟨x, y, rfl⟩, hR', hB'⟩
  have HF : Hid (Below B w w') := HBW.out.trans hB'
  go_wp2_with fail
  go_ret2
  exact ⟨⟨_, rfl⟩, hR', HF.out⟩

def dcells (H : Int) (k : Nat) : List Value := Lib.byteCells ((dig H).take k)
theorem dcells_zero (H : Int) : dcells H 0 = [] := rfl
theorem dcells_succ (H : Int) (j : Nat) (hj : j < 8) : dcells H (j + 1) = dcells H j ++ [.int .u8 (dval H j)] := dig_take H j hj
theorem dcells_end (H : Int) : dcells H 8 = Lib.byteCells (dig H) := by
  have e8 : (dig H).take 8 = dig H := List.take_of_length_le (by rw [dig_len]; omega)
  rw [dcells, e8]

set_option maxHeartbeats 2000000 in
set_option maxRecDepth 100000 in
theorem sumF (B b : Nat) (h : Int) (w : World) (hF : FnvIs B w b h) (h0 : 0 ≤ h) (h1 : h ≤ 18446744073709551615) :
    Calls Try.prog 36 #[.pointer (some ⟨b, 0, none⟩), .slice none 0 0] w fun e w' => ∃ v, e = .returned v ∧ w'.ownsRow w.heap.size 5 1 v (dig h).length (Lib.byteCells (dig h)) ∧ Below w.heap.size w w' := by
  obtain ⟨j0, ji, jz0, jz1, jz2⟩ := info_parts Try.info5
  have hc : w.cell? ⟨b, 0, none⟩ = some (.int .u64 h) := by simp [World.cell?, hF.2]
  have hbl := heap_lt hF.2
  clear hF
  go_enter Try.func36, Try.ntmps36
  go_wp2_with fail
  go_loopg [1, 5] 8 (fun g v i wr => ∃ (k : Nat), g + k = 8 ∧ k ≤ 8 ∧ i = .int .i64 (7 - (k : Int)) ∧ wr.ownsRow w.heap.size 5 1 v k (dcells h k) ∧ Below w.heap.size w wr)
  case atStart => exact ⟨0, rfl, Nat.zero_le _, rfl, World.ownsRow_nil w _ _ _, Below.refl _ _⟩
  case round =>
    obtain ⟨k, hg, hk, rfl, ho, hb⟩ := hrel
    have hcr : wr.cell? ⟨b, 0, none⟩ = some (.int .u64 h) := (hb.cell (p := ⟨b, 0, none⟩) hbl).trans hc
    by_cases hk8 : k = 8
    · subst hk8
      rw [dcells_end] at ho
      go_wp2_with fail
      go_ret
      exact ⟨_, rfl, by rw [dig_len]; exact ho, hb⟩
    · have D0 : Hid _ := dv0 h h0 h1
      rcases (by omega : k = 0 ∨ k = 1 ∨ k = 2 ∨ k = 3 ∨ k = 4 ∨ k = 5 ∨ k = 6 ∨ k = 7) with rfl | rfl | rfl | rfl | rfl | rfl | rfl | rfl
      all_goals
        go_wp2_with (at_builtin; refine wpList_append_own _ rfl (.tmp 10) (.tmp 20) 35 rfl w.heap.size 5 j0 (.int .u8 0) 1 1 Try.underlying35 ji jz0 jz1 jz2 rfl (by decide) _ _ _ rfl (ho.alloc _) ⟨wr.heap.size, 0, none⟩ 1 1 [_] rfl rfl (one_new5 _ _) (by intro u hu; simp at hu; subst hu; rfl) (by unfold maxLen; omega) (by omega) (by have := hb.size; simp; omega) ?_)
        intro v' w4 ho4 hg4 _
        have hb4 : Below w.heap.size w w4 := (hb.alloc hb.size _).grown hg4 (by have := hb.size; simp; omega) (fun q hq => (ho.lt q hq).1)
        first | rw [← dv1] at ho4 | rw [← dv2] at ho4 | rw [← dv3] at ho4 | rw [← dv4] at ho4 | rw [← dv5] at ho4 | rw [← dv6] at ho4 | rw [← D0.out] at ho4 | rw [← dv7] at ho4
        rw [← dcells_succ _ _ (by omega)] at ho4
        clear hg4
        go_wp2_with fail
        go_roundg (gk - 1)
        case measure => omega
        case rel => exact ⟨_, (by omega : gk - 1 + _ = 8), by omega, by go_num, ho4, hb4⟩
end Go.Proofs.Qxb6002368a
