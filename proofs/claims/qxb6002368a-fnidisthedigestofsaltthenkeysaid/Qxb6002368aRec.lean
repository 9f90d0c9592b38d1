/-
  THE RECORDER.
-/
import Derived.Test.Qxb6002368aNew
import Derived.Stop.Asserts
import Derived.Lib.ConvBytes
import Derived.Lib.AtoiErrMem
import Derived.Lib.BufferMore
import Derived.Lib.BufferRead
import Derived.Lib.UnsafeStr
import Derived.Laws.OwnMore
import Derived.Laws.AppendOwnNone
namespace Go.Proofs.Qxb6002368a
open Go.RowKit

theorem Try.info5 : (Try.prog.info? 5).map (fun i => (i.zero, i.size, i.bytes)) = some (some (.int .u8 0), 1, 1) := by kernel_rfl
theorem info_parts {t : TypeId} {z : Value} {s b : Nat} (h : (Try.prog.info? t).map (fun i => (i.zero, i.size, i.bytes)) = some (some z, s, b)) : ∃ i, Try.prog.info? t = some i ∧ i.zero = some z ∧ i.size = s ∧ i.bytes = b := by
  cases hi : Try.prog.info? t with
  | none => rw [hi] at h; cases h
  | some i => rw [hi] at h; simp at h; exact ⟨i, rfl, h.1, h.2.1, h.2.2⟩

theorem ta37 (v : Value) (xT : TypeId) (w : World) : (Instr.typeAssert (.iface 37 v) xT 49 true).run Try.prog w = .ok (.tuple #[.nilIface, .bool false]) w := run_typeAssert_lacksB Try.underlying49 (by kernel_rfl) (by kernel_rfl) v xT w
theorem ta40 (v : Value) (xT : TypeId) (w : World) : (Instr.typeAssert (.iface 40 v) xT 49 true).run Try.prog w = .ok (.tuple #[.nilIface, .bool false]) w := run_typeAssert_lacksB Try.underlying49 (by kernel_rfl) (by kernel_rfl) v xT w

theorem method_w37 (a : Addr) (w : World) : (method 170 37 (.pointer (some a)) "Write").run Try.prog w = .ok (32, .pointer (some a)) w := by kernel_rfl
theorem method_w40 (a : Addr) (w : World) : (method 170 40 (.pointer (some a)) "Write").run Try.prog w = .ok (37, .pointer (some a)) w := by kernel_rfl
theorem method_s37 (a : Addr) (w : World) : (method 170 37 (.pointer (some a)) "Sum").run Try.prog w = .ok (31, .pointer (some a)) w := by kernel_rfl
theorem method_s40 (a : Addr) (w : World) : (method 170 40 (.pointer (some a)) "Sum").run Try.prog w = .ok (36, .pointer (some a)) w := by kernel_rfl

theorem owns_off {w : World} {b B n : Nat} {v u : Value} {T : TypeId} {xs : List Value} (h : w.ownsRow B 5 1 v n xs) (hb : w.heap[b]? = some (.cells #[u] T (0, 0))) (hT : T ≠ 5) : v.ownBlock ≠ some b := by
  rcases h.2 with ⟨rfl, _⟩ | ⟨g, cap, cur, rfl, _, hg, _⟩
  · simp [Value.ownBlock]
  · simp only [Value.ownBlock]
    intro hh
    have := Option.some.inj hh
    subst this
    rw [hg] at hb
    simp at hb
    exact hT hb.2.symm
theorem owns_shape {w : World} {b n : Nat} {e : TypeId} {x : Value} {xs : List Value} (h : w.ownsRow b e 1 x n xs) : ∃ a cap, x = .slice a n cap := by
  rcases h.2 with ⟨rfl, rfl⟩ | ⟨g, cap, cur, rfl, _⟩
  · exact ⟨none, 0, rfl⟩
  · exact ⟨_, cap, rfl⟩
theorem owns_base {w : World} {base base' : Nat} {e : TypeId} {size n : Nat} {v : Value} {xs : List Value} (h : w.ownsRow base e size v n xs) (hb : base' ≤ base) : w.ownsRow base' e size v n xs := by
  refine ⟨h.1, ?_⟩
  rcases h.2 with h0 | ⟨g, cap, cur, hv, hg, rest⟩
  · exact Or.inl h0
  · exact Or.inr ⟨g, cap, cur, hv, by omega, rest⟩
theorem owns_below {wb w2 : World} {base : Nat} {e : TypeId} {size n : Nat} {v : Value} {xs : List Value} (h : wb.ownsRow base e size v n xs) (hb : Below wb.heap.size wb w2) : w2.ownsRow base e size v n xs :=
  h.kept (row := some wb.heap.size) ⟨hb.os, hb.tape, hb.output, hb.size, fun k hk _ => hb.block k hk⟩ (Or.inr (fun hh => by have := (h.lt _ hh).2; omega))
theorem grown_set (w : World) (b : Nat) (v : Value) : w.grownBy (w.setCell ⟨b, 0, none⟩ v) (some b) :=
  ⟨rfl, rfl, rfl, by simp, fun k _ hne => Below.heap_setCell _ _ _ _ (fun h => hne (by rw [h]))⟩
theorem heap_lt {w : World} {b : Nat} {O : Obj} (h : w.heap[b]? = some O) : b < w.heap.size := by
  rcases Nat.lt_or_ge b w.heap.size with h' | h'
  · exact h'
  · simp [Array.getElem?_eq_none h'] at h

/-- The recorder at b has been fed l. -/
def RecIs (B : Nat) (w : World) (b : Nat) (l : List UInt8) : Prop :=
  B ≤ b ∧ ∃ v, w.heap[b]? = some (.cells #[v] 39 (0, 0)) ∧ w.ownsRow B 5 1 v l.length (Lib.byteCells l)
theorem RecIs.stays {B b : Nat} {w w' : World} {l : List UInt8} (h : RecIs B w b l) (hb : Below w.heap.size w w') : RecIs B w' b l := by
  obtain ⟨h1, v, hv, ho⟩ := h
  exact ⟨h1, v, (hb.block b (heap_lt hv)).trans hv, owns_below ho hb⟩

theorem rec_put {B b : Nat} {w w4 : World} {v v' : Value} {l q : List UInt8} (hB : B ≤ b) (hb : w.heap[b]? = some (.cells #[v] 39 (0, 0))) (ho : w.ownsRow B 5 1 v l.length (Lib.byteCells l))
    (ho4 : w4.ownsRow B 5 1 v' (l.length + q.length) (Lib.byteCells l ++ Lib.byteCells q)) (hg4 : w.grownBy w4 v.ownBlock) : RecIs B (w4.setCell ⟨b, 0, none⟩ v') b (l ++ q) ∧ Below B w (w4.setCell ⟨b, 0, none⟩ v') := by
  have h4 : w4.heap[b]? = some (.cells #[v] 39 (0, 0)) := (hg4.block b (heap_lt hb) (fun h => owns_off ho hb (by decide) h.symm)).trans hb
  refine ⟨⟨hB, v', ?_, ?_⟩, ?_⟩
  · exact (Lib.heap_setCell_same (i := 0) h4 v')
  · rw [List.length_append, Lib.byteCells_append]
    exact ho4.kept (grown_set w4 b v') (Or.inr (owns_off ho4 h4 (by decide)))
  · exact ((Below.refl B w).grown hg4 (by have := heap_lt hb; omega) (fun k hk => (ho.lt k hk).1)).setCell (p := ⟨b, 0, none⟩) hB v'

theorem ret2_len {a b : Int} {x : Value} (h : a = b) : Ending.returned (.tuple #[.int .i64 a, x]) = .returned (.tuple #[.int .i64 b, x]) := by rw [h]

set_option maxHeartbeats 1000000 in
set_option maxRecDepth 100000 in
theorem writeR (B b : Nat) (l q : List UInt8) (pa : Addr) (pc : Nat) (w : World) (hR : RecIs B w b l) (hq : ∀ j u, (Lib.byteCells q)[j]? = some u → w.cell? (pa.add j) = some u) (hl : l.length + q.length ≤ 1048576) :
    Calls Try.prog 32 #[.pointer (some ⟨b, 0, none⟩), .slice (some pa) q.length pc] w fun e w' => e = .returned (.tuple #[.int .i64 q.length, .nilIface]) ∧ RecIs B w' b (l ++ q) ∧ Below B w w' := by
  obtain ⟨j0, ji, jz0, jz1, jz2⟩ := info_parts Try.info5
  obtain ⟨hB, v, hb, ho⟩ := hR
  have hc : w.cell? ⟨b, 0, none⟩ = some v := by simp [World.cell?, hb]
  have hBs : B ≤ w.heap.size := by have := heap_lt hb; omega
  have HB : Hid (w.heap[b]? = some (.cells #[v] 39 (0, 0))) := hb
  have HQ : Hid _ := hq
  clear hb hq
  go_enter Try.func32, Try.ntmps32
  go_wp2_with (at_builtin; refine wpList_append_own _ rfl (.tmp 10) (.tmp 11) 35 rfl B 5 j0 (.int .u8 0) 1 1 Try.underlying35 ji jz0 jz1 jz2 rfl (by decide) _ l.length _ rfl ho pa q.length pc (Lib.byteCells q) rfl (by rw [Lib.byteCells_length]; omega) HQ.out (Lib.byteCells_one q) (by unfold maxLen; omega) (by omega) hBs ?_)
  intro v' w4 ho4 hg4 _
  have h4 : w4.heap[b]? = some (.cells #[v] 39 (0, 0)) := (hg4.block b (heap_lt HB.out) (fun h => owns_off ho HB.out (by decide) h.symm)).trans HB.out
  have hc4 : w4.cell? ⟨b, 0, none⟩ = some v := by simp [World.cell?, h4]
  have hf4 : w4.frozen? ⟨b, 0, none⟩ = false := by simp [World.frozen?, h4]
  obtain ⟨hR', hBel⟩ := rec_put hB HB.out ho ho4 hg4
  obtain ⟨xa, xc, hxs⟩ := owns_shape ho4
  subst hxs
  have HR' : Hid _ := hR'
  have HBel : Hid _ := hBel
  clear hR' hBel h4 ho4 hg4
  go_wp2_with fail
  go_ret2
  exact ⟨rfl, HR'.out, HBel.out⟩

set_option maxHeartbeats 1000000 in
set_option maxRecDepth 100000 in
theorem strR (B b : Nat) (l : List UInt8) (s : ByteArray) (w : World) (hR : RecIs B w b l) (hl : l.length + s.size ≤ 1048576) : Calls Try.prog 12 #[.iface 37 (.pointer (some ⟨b, 0, none⟩)), .string s] w fun e w' => (∃ x, e = .returned x) ∧ RecIs B w' b (l ++ s.data.toList) ∧ Below B w w' := by
  have t := fun w => ta37 (.pointer (some ⟨b, 0, none⟩)) 47 w
  have hcv := fun w => Lib.run_convert_string_bytes (P := Try.prog) w 9 35 5 s Try.underlying9 Try.underlying35 Try.underlying5
  have hme := fun w => method_w37 ⟨b, 0, none⟩ w
  have hbw := Lib.bytesWorld_below w 5 s
  have hBs : B ≤ w.heap.size := by obtain ⟨h1, v, hv, _⟩ := hR; have := heap_lt hv; omega
  have W := writeR B b l s.data.toList ⟨w.heap.size, 0, none⟩ (grownCap w s.size 0 5) (Lib.bytesWorld w 5 s) (hR.stays hbw) (fun j u hj => by
    have hj' : j < s.size := by
      have := (List.getElem?_eq_some_iff.1 hj).1
      rw [Lib.byteCells_length] at this
      exact this
    have hc := Lib.bytesWorld_cell w 5 s j hj'
    have e1 : ((⟨w.heap.size, 0, none⟩ : Addr).add j) = ⟨w.heap.size, j, none⟩ := by simp [Addr.add]; intro h; exact h.symm
    rw [e1, hc, ← hj]
    have hd : j < s.data.toList.length := hj'
    simp only [Lib.byteCells, List.getElem?_map, List.getElem?_eq_getElem hd, Option.map_some, List.getD, Option.getD_some]) hl
  have HW : Hid _ := W
  have HBW : Hid (Below B w (Lib.bytesWorld w 5 s)) := hbw.mono hBs
  clear W hbw
  go_enter Try.func12, Try.ntmps12
  go_wp2_with fail
  refine Calls.mono HW.out ?_
  rintro e w' ⟨rfl, hR', hB'⟩
  have HF : Hid (Below B w w') := HBW.out.trans hB'
  go_wp2_with fail
  go_ret2
  exact ⟨⟨_, rfl⟩, hR', HF.out⟩

set_option maxHeartbeats 1000000 in
set_option maxRecDepth 100000 in
theorem sumR (B b : Nat) (l : List UInt8) (w : World) (hR : RecIs B w b l) (hl : l.length ≤ 1048576) :
    Calls Try.prog 31 #[.pointer (some ⟨b, 0, none⟩), .slice none 0 0] w fun e w' => ∃ v, e = .returned v ∧ w'.ownsRow w.heap.size 5 1 v l.length (Lib.byteCells l) ∧ Below w.heap.size w w' := by
  obtain ⟨j0, ji, jz0, jz1, jz2⟩ := info_parts Try.info5
  obtain ⟨hB, v, hb, ho⟩ := hR
  have hc : w.cell? ⟨b, 0, none⟩ = some v := by simp [World.cell?, hb]
  clear hb
  rcases ho.2 with ⟨hv, h0⟩ | ⟨g, cap, cur, hv, _⟩
  · subst hv
    have hl0 : l = [] := List.length_eq_zero_iff.1 h0
    subst hl0
    go_enter Try.func31, Try.ntmps31
    go_wp2_with (at_builtin; refine wpList_append_own_none rfl (.tmp 5) (.tmp 9) 35 rfl w.heap.size 5 j0 1 Try.underlying35 ji _ 0 [] rfl (World.ownsRow_nil w _ _ _) rfl ?_)
    go_wp2_with fail
    go_ret
    exact ⟨_, rfl, World.ownsRow_nil w _ _ _, Below.refl _ _⟩
  · subst hv
    have HC : Hid _ := ho.cells (g := g) rfl
    clear ho
    go_enter Try.func31, Try.ntmps31
    go_wp2_with (at_builtin; refine wpList_append_own _ rfl (.tmp 5) (.tmp 9) 35 rfl w.heap.size 5 j0 (.int .u8 0) 1 1 Try.underlying35 ji jz0 jz1 jz2 rfl (by decide) _ 0 [] rfl (World.ownsRow_nil w _ _ _) ⟨g, 0, none⟩ l.length cap (Lib.byteCells l) rfl (by rw [Lib.byteCells_length]; omega) HC.out (Lib.byteCells_one l) (by unfold maxLen; omega) (by omega) (Nat.le_refl _) ?_)
    intro v' w4 ho4 hg4 _
    have hbel : Below w.heap.size w w4 := (Below.refl _ w).grown hg4 (Nat.le_refl _) (fun k hk => by cases hk)
    clear hg4
    go_wp2_with fail
    go_ret
    exact ⟨_, rfl, ho4, hbel⟩

theorem owns_str {w : World} {base : Nat} {v : Value} {l : List UInt8} (h : w.ownsRow base 5 1 v l.length (Lib.byteCells l)) : (convert 35 9 v).run Try.prog w = .ok (.string ⟨l.toArray⟩) w := by
  rcases h.2 with ⟨hv, h0⟩ | ⟨g, cap, cur, hv, _, hg, _, _, _, ht⟩
  · subst hv
    have hl0 : l = [] := List.length_eq_zero_iff.1 h0
    subst hl0
    exact Lib.run_convert_nil_bytes w 35 9 5 0 Try.underlying35 Try.underlying5 Try.underlying9
  · subst hv
    refine run_convert_bytes_back w 35 9 5 ⟨g, 0, none⟩ cap l Try.underlying35 Try.underlying5 Try.underlying9 ?_
    exact Lib.bytes_of_row hg (by rw [Nat.mul_one] at ht; exact ht)
end Go.Proofs.Qxb6002368a
