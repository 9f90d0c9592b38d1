/-
  WHAT BOTH ROWS SHARE: the listed tables in the door's own heap; the table of powers of ten out of the rows' condition; a pointer to a string, opened.
-/
import Derived.Test.Qxb6601290aDoorTie
import Derived.Test.Qxb6601290aDoorMessage
import Derived.ProofKit
import Derived.LaidMore
import Derived.OpenShut
import Derived.ShutString
import Derived.ChangeOld
import Derived.Stop.Joined
namespace Go.Proofs.Qxb6601290aDoor
open Go.ChangeShapes Go.WideShapes Go.ChangeAt Go.RowKit

theorem own : ownKnob Tryd.prog.godebug = none := by kernel_rfl
theorem laidOut : laidOutB Tryd.prog = true := by kernel_rfl
theorem cells9 : Tryd.prog.cellsOf 9 = 1 := by kernel_rfl

/-- What both rows list. -/
def laid3 : List (String × DataW Unit) := Rows.fnMessageKeepsUTF8ValidityAndHasNoControlBytesRow.laid
theorem laid3_other : Rows.fnMessageParsesBackToItsArgumentsRow.laid = laid3 := rfl

/-- The door's own heap meets the condition. -/
theorem door_met (os : Os) (args : Array Value) : laidMetH Tryd.prog laid3 ((World.doorLaid Tryd.prog 24 os).forCall (fun _ _ => 0) ⟨#[], args, []⟩).memory :=
  laidMetH_of_parts3 (fuel := 8) (laidMet_of_run' 8 (by kernel_rfl) (by kernel_rfl)) (by kernel_rfl) (by kernel_rfl)

theorem powN_type : (Tryd.prog.globals[0]?).map (·.type) = some 61 := by kernel_rfl

/-- THE TABLE OF POWERS OF TEN, out of the rows' condition. -/
theorem pow_of_laid {W : World} (h : laidMetH Tryd.prog laid3 W) : Lib.TabIs Tryd.prog W Tryd.powN .u64 Lib.pow10Tab := by
  rw [MakeChecks.laidMetH_plain _ _ _ (by kernel_rfl)] at h
  have h1 : laidMet Tryd.prog [(Tryd.powN, Lib.tabData .u64 Lib.pow10Tab)] W := by
    have h2 := laidMet.filter (fun x => x.1 == Tryd.powN) h
    exact Eq.mp (by kernel_rfl) h2
  exact Lib.tabIs_of_head gTab powN_type Tryd.underlying61 Tryd.underlying49 (by kernel_rfl) (by kernel_rfl) h1

/-- A POINTER TO A STRING THAT CAME IN: nil, or it leads to a cell that holds a string. -/
theorem open_sptr {H : Type} {enc : TypeId × Value → H} {W : World} {r : Reach} {b0 : Nat} {v : Value} {d : DataW H} {ps : List MemPlace} (hval : Value.okWide Tryd.prog W r b0 22 v) (h : DataW.Trod enc Tryd.prog W 0 (fun _ => true) true 22 v d ps) :
    v = .pointer none ∨ ∃ b off s, v = .pointer (some ⟨b, off, none⟩) ∧ W.cell? ⟨b, off, none⟩ = some (.string s) ∧ s.size ≤ maxLen := by
  rcases open_ptr Tryd.underlying22 (by rw [cells9]; omega) hval h with ⟨rfl, _, _⟩ | ⟨b, off, cs, y, fuel, rfl, _, _, hlen, hcell, hy⟩
  · exact Or.inl rfl
  · right
    rw [cells9] at hlen hcell
    match cs, hlen with
    | [c], _ =>
      obtain ⟨s, e1, e2, hs⟩ := DataW.trod_string Tryd.underlying9 hy
      simp at e1
      subst e1
      exact ⟨b, off, s, rfl, hcell 0 (by omega), hs⟩
end Go.Proofs.Qxb6601290aDoor
