/-
  THE COUNT AND THE COPY, at every [][]byte that came in.
-/
import Derived.Test.Qxb6001793aClone
namespace Go.Proofs.Qxb6001793a
open Go.RowKit

theorem cell_lt {w : World} {a : Addr} {v : Value} (h : w.cell? a = some v) : a.block < w.heap.size := by
  rcases Nat.lt_or_ge a.block w.heap.size with h' | h'
  · exact h'
  · simp [World.cell?, Array.getElem?_eq_none h'] at h

/-- A []byte of the law's own copy that holds l. -/
def OItem (w : World) (x : Value) (l : List UInt8) : Prop :=
  (x = .slice none 0 0 ∧ l = []) ∨ ∃ b cap, x = .slice (some ⟨b, 0, none⟩) l.length cap ∧ b < w.heap.size ∧ ∀ j (hj : j < l.length), w.cell? ⟨b, j, none⟩ = some (.int .u8 (l[j].toNat : Int))

/-- A [][]byte of the law's own copy that holds I. -/
def OItems (w : World) (v : Value) (I : List (List UInt8)) : Prop :=
  ∃ a cap, v = .slice a I.length cap ∧ (I ≠ [] → ∃ b, a = some ⟨b, 0, none⟩ ∧ ∀ r (hr : r < I.length), ∃ x, w.cell? ⟨b, r, none⟩ = some x ∧ OItem w x I[r])

theorem OItem.stays {w w' : World} {x : Value} {l : List UInt8} (h : OItem w x l) (hb : Below w.heap.size w w') : OItem w' x l := by
  rcases h with h | ⟨b, cap, hx, hlt, hc⟩
  · exact Or.inl h
  · exact Or.inr ⟨b, cap, hx, Nat.lt_of_lt_of_le hlt hb.size, fun j hj => (hb.cell (p := ⟨b, j, none⟩) hlt).trans (hc j hj)⟩
theorem OItems.stays {w w' : World} {v : Value} {I : List (List UInt8)} (h : OItems w v I) (hb : Below w.heap.size w w') : OItems w' v I := by
  obtain ⟨a, cap, hv, hI⟩ := h
  refine ⟨a, cap, hv, fun hne => ?_⟩
  obtain ⟨b, ha, hr⟩ := hI hne
  refine ⟨b, ha, fun r hr' => ?_⟩
  obtain ⟨x, hx, ho⟩ := hr r hr'
  exact ⟨x, (hb.cell (p := ⟨b, r, none⟩) (cell_lt hx)).trans hx, ho.stays hb⟩

/-- WHAT CAME IN READS AS I. -/
def ArgIs (w : World) (v : Value) (I : List (List UInt8)) : Prop :=
  (I = [] ∧ ∃ a cap, v = .slice a 0 cap) ∨
  ∃ b o N cap A L C Z, v = .slice (some ⟨b, o, none⟩) N cap ∧ 0 < N ∧ N ≤ 9223372036854775807 ∧ Came w b o N A L C Z ∧ I = (List.range N).map Z

/-- How many bytes the lists hold. -/
def bytesOf (I : List (List UInt8)) : Nat := (I.map List.length).sum

theorem total_eq (L : Nat → Nat) (Z : Nat → List UInt8) (n : Nat) (h : ∀ r, r < n → (Z r).length = L r) : bytesOf ((List.range n).map Z) = total L n := by
  induction n with
  | zero => rfl
  | succ n ih =>
    have := ih (fun r hr => h r (by omega))
    rw [bytesOf] at *
    rw [List.range_succ, List.map_append, List.map_append, List.sum_append, this]
    simp [total, h n (by omega)]

theorem zz11_arg {w : World} {v : Value} {I : List (List UInt8)} (h : ArgIs w v I) : Calls Try.prog 11 #[v] w (SomeBool w) := by
  rcases h with ⟨_, a, cap, rfl⟩ | ⟨b, o, N, cap, A, L, C, Z, rfl, _, hN, hC, _⟩
  · exact zz11_none a cap w
  · exact zz11 b o N cap A L C Z w hN hC
theorem zz18_arg {w : World} {v : Value} {I : List (List UInt8)} (h : ArgIs w v I) : Calls Try.prog 18 #[v] w (SomeBool w) := by
  rcases h with ⟨_, a, cap, rfl⟩ | ⟨b, o, N, cap, A, L, C, Z, rfl, _, hN, hC, _⟩
  · exact zz18_none a cap w
  · exact zz18 b o N cap A L C Z w hN hC
theorem items_arg {w : World} {v : Value} {I : List (List UInt8)} (h : ArgIs w v I) : Calls Try.prog 12 #[v] w (Counted w (24 * I.length + bytesOf I)) := by
  rcases h with ⟨rfl, a, cap, rfl⟩ | ⟨b, o, N, cap, A, L, C, Z, rfl, _, hN, hC, rfl⟩
  · exact items12_none a cap w
  · rw [total_eq L Z N hC.len]
    have e : ((List.range N).map Z).length = N := by simp
    rw [e]
    exact items12 b o N cap A L C Z w hN hC

/-- The length of what came in, as the law asks it. -/
theorem ArgIs.shape {w : World} {v : Value} {I : List (List UInt8)} (h : ArgIs w v I) : ∃ a cap, v = .slice a I.length cap ∧ I.length ≤ 9223372036854775807 := by
  rcases h with ⟨rfl, a, cap, rfl⟩ | ⟨b, o, N, cap, A, L, C, Z, rfl, _, hN, hC, rfl⟩
  · exact ⟨a, cap, rfl, by simp⟩
  · exact ⟨some ⟨b, o, none⟩, cap, by simp, by simpa using hN⟩

set_option maxHeartbeats 1000000 in
set_option maxRecDepth 100000 in
theorem clone_nil (cap : Nat) (w : World) : Calls Try.prog 13 #[.slice none 0 cap] w fun e w' => e = .returned (.slice none 0 0) ∧ w = w' := by
  have kn25 := fun (a : Option Addr) (l c : Nat) wx => Lib.run_eql_slice_nil (P := Try.prog) wx 25 33 a l c 0 0 Try.underlying25
  go_enter Try.func13, Try.ntmps13
  go_wp2
  go_ret
  exact ⟨rfl, rfl⟩

set_option maxHeartbeats 1000000 in
set_option maxRecDepth 100000 in
theorem clone_empty (ad : Addr) (cap : Nat) (w : World) : Calls Try.prog 13 #[.slice (some ad) 0 cap] w fun e w' => e = .returned (.slice (some ⟨w.heap.size, 0, none⟩) 0 0) ∧ Below w.heap.size w w' := by
  have kn25 := fun (a : Option Addr) (l c : Nat) wx => Lib.run_eql_slice_nil (P := Try.prog) wx 25 33 a l c 0 0 Try.underlying25
  have hmk : ∀ wx : World, (Instr.makeSlice 25 (.int .i64 0) (.int .i64 0)).run Try.prog wx = _ := run_make_row' (P := Try.prog) 25 33 (.slice none 0 0) 24 Try.underlying25 Try.info33 rfl .i64 .i64 0 (by omega) (by omega)
  go_enter Try.func13, Try.ntmps13
  go_wp2
  refine wp_loop_rounds 1 ?_
  rw [rounds_succ]
  go_wp2
  go_ret
  exact ⟨rfl, (Below.refl _ w).alloc (Nat.le_refl _) _⟩

/-- THE COPY. -/
theorem clone_arg {w : World} {v : Value} {I : List (List UInt8)} (h : ArgIs w v I) (hbnd : 24 * I.length + bytesOf I ≤ 1048576) :
    Calls Try.prog 13 #[v] w fun e w' => ∃ v', e = .returned v' ∧ OItems w' v' I ∧ Below w.heap.size w w' := by
  rcases h with ⟨rfl, a, cap, rfl⟩ | ⟨b, o, N, cap, A, L, C, Z, rfl, hpos, hN, hC, rfl⟩
  · cases a with
    | none =>
      refine (clone_nil cap w).mono ?_
      rintro e w' ⟨rfl, rfl⟩
      exact ⟨_, rfl, ⟨none, 0, rfl, fun hne => absurd rfl hne⟩, Below.refl _ _⟩
    | some ad =>
      refine (clone_empty ad cap w).mono ?_
      rintro e w' ⟨rfl, hb⟩
      exact ⟨_, rfl, ⟨some _, 0, rfl, fun hne => absurd rfl hne⟩, hb⟩
  · rw [total_eq L Z N hC.len] at hbnd
    have e : ((List.range N).map Z).length = N := by simp
    rw [e] at hbnd
    have hb := cell_lt (hC.cell 0 hpos)
    refine (clone13 b o N cap A L C Z w hC hb (by omega) (fun r hr => by have := total_one L r N hr; omega) ?_).mono ?_
    · intro r hr b' o' hA hl
      obtain ⟨b2, o2, h2, hc⟩ := hC.bytes r hr hl
      rw [hA] at h2
      cases h2
      exact cell_lt (hc 0 (by rw [hC.len r hr]; exact hl))
    · rintro e w' ⟨f, rfl, hM⟩
      refine ⟨_, rfl, ⟨some _, N, by simp, fun _ => ⟨w.heap.size, rfl, fun r hr => ?_⟩⟩, hM.below⟩
      have hrN : r < N := by simpa using hr
      refine ⟨f r, hM.row.cell hrN, ?_⟩
      have hz : ((List.range N).map Z)[r]'hr = Z r := by simp
      rw [hz]
      rcases hM.done r hrN with ⟨h1, h2⟩ | ⟨bb, hbb, hx, hrow⟩
      · exact Or.inl ⟨h1, h2⟩
      · refine Or.inr ⟨bb, (Z r).length, hx, hrow.lt, fun j hj => ?_⟩
        have := hrow.cell hj
        simpa [List.getD, List.getElem?_eq_getElem hj] using this
end Go.Proofs.Qxb6001793a
