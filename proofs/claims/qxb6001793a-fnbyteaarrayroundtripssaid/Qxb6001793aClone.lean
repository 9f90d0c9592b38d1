/-
  THE WALK OF zzCloneItems: a deep copy in blocks of its own.
-/
import Derived.Test.Qxb6001793aBase
import Derived.Lib.SliceRun
namespace Go.Proofs.Qxb6001793a
open Go.RowKit

theorem Try.info33 : (Try.prog.info? 33).map (fun i => (i.zero, i.size, i.bytes)) = some (some (.slice none 0 0), 1, 24) := by kernel_rfl
theorem Try.info5 : (Try.prog.info? 5).map (fun i => (i.zero, i.size, i.bytes)) = some (some (.int .u8 0), 1, 1) := by kernel_rfl

/-- A []byte of the call's own, above block O, that holds l (nil where it came in as nil). -/
def Own (w : World) (O : Nat) (x : Value) (l : List UInt8) : Prop :=
  (x = .slice none 0 0 ∧ l = []) ∨ ∃ b, O < b ∧ x = .slice (some ⟨b, 0, none⟩) l.length l.length ∧ w.rowIs b 5 l.length (fun j => .int .u8 ((l.getD j 0).toNat : Int))

theorem Own.stays {w w' : World} {O : Nat} {x : Value} {l : List UInt8} (h : Own w O x l) (hw : ∀ b, O < b → b < w.heap.size → w'.heap[b]? = w.heap[b]?) : Own w' O x l := by
  rcases h with h | ⟨b, hb, hx, hr⟩
  · exact Or.inl h
  · exact Or.inr ⟨b, hb, hx, hr.of_block (hw b hb hr.lt)⟩

/-- The state of the outer loop behind k rows. -/
structure Mid (w wr : World) (O N k : Nat) (Z : Nat → List UInt8) (f : Nat → Value) : Prop where
  row : wr.rowIs O 33 N f
  rest : ∀ r, k ≤ r → f r = .slice none 0 0
  done : ∀ r, r < k → Own wr O (f r) (Z r)
  below : Below O w wr

theorem mid_nil {w wr : World} {O N k : Nat} {Z : Nat → List UInt8} {f : Nat → Value} (h : Mid w wr O N k Z f) (hz : Z k = []) : Mid w wr O N (k + 1) Z f :=
  ⟨h.row, fun r hr => h.rest r (by omega), fun r hr => by
    by_cases e : r = k
    · subst e; exact Or.inl ⟨h.rest r (Nat.le_refl _), hz⟩
    · exact h.done r (by omega), h.below⟩

theorem mid_put {w wr w2 : World} {O N k : Nat} {Z : Nat → List UInt8} {f : Nat → Value} (h : Mid w wr O N k Z f) (hb : Below wr.heap.size wr w2) (hrow : w2.rowIs wr.heap.size 5 (Z k).length (fun j => .int .u8 (((Z k).getD j 0).toNat : Int))) :
    Mid w (w2.setCell ⟨O, k, none⟩ (.slice (some ⟨wr.heap.size, 0, none⟩) (Z k).length (Z k).length)) O N (k + 1) Z (fun j => if j = k then .slice (some ⟨wr.heap.size, 0, none⟩) (Z k).length (Z k).length else f j) := by
  have hO := h.row.lt
  have hrow2 : w2.rowIs O 33 N f := h.row.of_block (hb.block O hO)
  have keep : ∀ b, O < b → (w2.setCell ⟨O, k, none⟩ (.slice (some ⟨wr.heap.size, 0, none⟩) (Z k).length (Z k).length)).heap[b]? = w2.heap[b]? := fun b hb' => Below.heap_setCell _ _ _ _ (by simp; omega)
  refine ⟨hrow2.set k _, ?_, ?_, ?_⟩
  · intro r hr
    rw [if_neg (by omega)]; exact h.rest r (by omega)
  · intro r hr
    by_cases e : r = k
    · subst e
      rw [if_pos rfl]
      exact Or.inr ⟨wr.heap.size, hO, rfl, hrow.of_block (keep _ hO)⟩
    · rw [if_neg e]
      exact (h.done r (by omega)).stays fun b h1 h2 => (keep b h1).trans (hb.block b h2)
  · exact (h.below.trans (hb.mono (by omega))).setCell (by simp) _

/-- What the inner loop has copied. -/
def copied (l : List UInt8) (q : Nat) : Nat → Value := fun j => if j < q then .int .u8 ((l.getD j 0).toNat : Int) else .int .u8 0

theorem copied_step (l : List UInt8) (j : Nat) (hj : j < l.length) {n : Nat} : ∀ i, i < n → (if i = j then .int .u8 ((l[j]'hj).toNat : Int) else copied l j i) = copied l (j + 1) i := by
  intro i _
  simp only [copied]
  by_cases e : i = j
  · subst e
    rw [if_pos rfl, if_pos (by omega)]
    simp [List.getD, List.getElem?_eq_getElem hj]
  · rw [if_neg e]
    by_cases h2 : i < j
    · rw [if_pos h2, if_pos (by omega)]
    · rw [if_neg h2, if_neg (by omega)]

set_option maxHeartbeats 2000000 in
set_option maxRecDepth 100000 in
theorem clone13 (b o N cap : Nat) (A : Nat → Option Addr) (L C : Nat → Nat) (Z : Nat → List UInt8) (w : World) (h : Came w b o N A L C Z) (hb : b < w.heap.size) (hN : N ≤ 43690) (hL : ∀ r, r < N → L r ≤ 1048576) (hlt : ∀ r, r < N → ∀ b' o', A r = some ⟨b', o', none⟩ → 0 < L r → b' < w.heap.size) :
    Calls Try.prog 13 #[.slice (some ⟨b, o, none⟩) N cap] w fun e w' => ∃ f, e = .returned (.slice (some ⟨w.heap.size, 0, none⟩) N N) ∧ Mid w w' w.heap.size N N Z f := by
  have kn : ∀ (t e : TypeId) (a : Option Addr) (l c : Nat), Try.prog.underlying t = some (.slice e) → ∀ wx, (binOp .eql t (.slice a l c) (.slice none 0 0)).run Try.prog wx = .ok (.bool a.isNone) wx := fun t e a l c ht wx => Lib.run_eql_slice_nil wx t e a l c 0 0 ht
  have kn25 := fun (a : Option Addr) (l c : Nat) wx => kn 25 33 a l c Try.underlying25 wx
  have kn33 := fun (a : Option Addr) (l c : Nat) wx => kn 33 5 a l c Try.underlying33 wx
  have hmk := run_make_row' (P := Try.prog) 25 33 (.slice none 0 0) 24 Try.underlying25 Try.info33 rfl .i64 .i64 N (by omega) (by omega)
  clear kn
  go_enter Try.func13, Try.ntmps13
  go_wp2
  go_loopg [4] N (fun g i wr => ∃ (k : Nat) (f : Nat → Value), g + k = N ∧ k ≤ N ∧ i = .int .i64 k ∧ Mid w wr w.heap.size N k Z f)
  case atStart =>
    exact ⟨0, fun _ => .slice none 0 0, rfl, Nat.zero_le _, rfl, World.rowIs_made w _ N 33, fun _ _ => rfl, fun r hr => absurd hr (by omega), (Below.refl _ w).alloc (Nat.le_refl _) _⟩
  case round =>
    rename World => w1
    rename Nat => g1
    obtain ⟨k, f, hg, hk, rfl, hM⟩ := hrel
    have Hg : Hid (g1 + k = N) := hg
    clear hg hmk
    by_cases hkN : k < N
    · have hcx : w1.cell? ⟨b, o + k, none⟩ = some (.slice (A k) (L k) (C k)) := (hM.below.cell (p := ⟨b, o + k, none⟩) hb).trans (h.cell k hkN)
      have hLk := hL k hkN
      have hlen := h.len k hkN
      have Hlen : Hid ((Z k).length = L k) := hlen
      have hnil := h.nil k hkN
      have hbytes := h.bytes k hkN
      have hltk := hlt k hkN
      clear hlen
      cases hA : A k with
      | none =>
        have hL0 := hnil hA
        rw [hA] at hcx
        have Hz : Hid (Z k = []) := List.length_eq_zero_iff.1 (by rw [Hlen.out]; exact hL0.1)
        clear hL0 hnil hbytes hltk hA
        go_wp2
        go_roundg (g1 - 1)
        case measure => have := Hg.out; omega
        case rel => have := Hg.out; exact ⟨k + 1, f, by omega, by omega, by go_num, mid_nil hM Hz.out⟩
      | some ad =>
        rw [hA] at hcx hbytes hltk
        have HB : Hid (0 < L k → ∃ b' o', some ad = some (⟨b', o', none⟩ : Addr) ∧ ∀ j (hj : j < (Z k).length), w.cell? ⟨b', o' + j, none⟩ = some (.int .u8 ((Z k)[j].toNat : Int))) := hbytes
        have HL : Hid (∀ b' o', some ad = some (⟨b', o', none⟩ : Addr) → 0 < L k → b' < w.heap.size) := hltk
        have hmk := run_make_row' (P := Try.prog) 33 5 (.int .u8 0) 1 Try.underlying33 Try.info5 rfl .i64 .i64 (L k) (by omega) (by omega)
        have hO := hM.row.lt
        have HA : Hid (A k = some ad) := hA
        clear hnil hbytes hltk hA
        go_wp2
        clear hmk hcx
        go_loopg [6] (L k) (fun g q w2 => ∃ j : Nat, g + j = L k ∧ j ≤ L k ∧ q = .int .i64 j ∧ w2.rowIs w1.heap.size 5 (L k) (copied (Z k) j) ∧ Below w1.heap.size w1 w2)
        case atStart =>
          exact ⟨0, rfl, Nat.zero_le _, rfl, (World.rowIs_made w1 _ (L k) 5).congr (fun i hi => by simp [copied]), (Below.refl _ w1).alloc (Nat.le_refl _) _⟩
        case round =>
          obtain ⟨j, hg2, hj, rfl, hrow, hbel⟩ := hrel
          have Hg2 : Hid (gk + j = L k) := hg2
          have hbw : Below w.heap.size w wr := hM.below.trans (hbel.mono (by omega))
          clear hg2
          by_cases hjL : j < L k
          · obtain ⟨b', o', had, hcs⟩ := HB.out (by omega)
            obtain rfl := Option.some.inj had
            have hb' := HL.out b' o' rfl (by omega)
            have hjZ : j < (Z k).length := by rw [Hlen.out]; exact hjL
            have hc1 : wr.cell? ⟨b, o + k, none⟩ = some (.slice (some ⟨b', o', none⟩) (L k) (C k)) := (hbw.cell (p := ⟨b, o + k, none⟩) hb).trans ((h.cell k hkN).trans (by rw [HA.out]))
            have hc2 : wr.cell? ⟨b', o' + j, none⟩ = some (.int .u8 (((Z k)[j]'hjZ).toNat : Int)) := (hbw.cell (p := ⟨b', o' + j, none⟩) hb').trans (hcs j hjZ)
            have hc3 : wr.cell? ⟨w1.heap.size, j, none⟩ = some (copied (Z k) j j) := hrow.cell hjL
            have hf3 : wr.frozen? ⟨w1.heap.size, j, none⟩ = false := hrow.frozen j
            clear hcs had
            go_wp2
            go_roundg (gk - 1)
            case measure => have := Hg2.out; omega
            case rel =>
              have := Hg2.out
              refine ⟨j + 1, by omega, by omega, by go_num, ?_, hbel.setCell (by simp) _⟩
              exact (hrow.set j _).congr (copied_step (Z k) j hjZ)
          · have hc4 : wr.cell? ⟨w.heap.size, k, none⟩ = some (f k) := (hbel.cell (p := ⟨w.heap.size, k, none⟩) hO).trans (hM.row.cell hkN)
            have hf4 : wr.frozen? ⟨w.heap.size, k, none⟩ = false := (hbel.frozen (p := ⟨w.heap.size, k, none⟩) hO).trans (hM.row.frozen k)
            have hfk := hM.rest k (Nat.le_refl _)
            rw [hfk] at hc4
            clear hfk
            go_wp2
            go_roundg (g1 - 1)
            case measure => have := Hg.out; omega
            case rel =>
              have := Hg.out
              have hrow2 : wr.rowIs w1.heap.size 5 (Z k).length (fun j => .int .u8 (((Z k).getD j 0).toNat : Int)) := by
                rw [Hlen.out]
                exact hrow.congr (fun i hi => by simp only [copied]; rw [if_pos (by omega)])
              have hp := mid_put hM hbel hrow2
              rw [Hlen.out] at hp
              exact ⟨k + 1, _, by omega, by omega, by go_num, hp⟩
    · obtain rfl : k = N := by omega
      go_wp2
      go_ret
      exact ⟨f, rfl, hM⟩
end Go.Proofs.Qxb6001793a
