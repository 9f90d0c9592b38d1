/-
  A [][]byte THAT CAME IN, OPENED.
-/
import Derived.Test.Qxb6001793aRows
import Derived.Test.Qxb6001793aArgs
import Derived.ProofKit
import Derived.OpenShut
import Derived.ShutString
import Derived.ChangeOld
import Derived.Deep.Matrix
namespace Go.Proofs.Qxb6001793a
open Go.ChangeShapes Go.WideShapes Go.ChangeAt Go.RowKit Go.Deep

theorem own : ownKnob Try.prog.godebug = none := by kernel_rfl
theorem laidOut : laidOutB Try.prog = true := by kernel_rfl

theorem byte_back (n : Int) (h : (Lit.int .u8 n).wf = true) : ((UInt8.ofNat n.toNat).toNat : Int) = n := by
  have hb := bounds_u8 h
  rw [UInt8.toNat_ofNat']
  omega

theorem plain_addr {w : World} {a : Addr} {v : Value} (h : w.cell? a = some v) : a = ⟨a.block, a.off, none⟩ := by
  obtain ⟨b, off, spot⟩ := a
  have hspot : spot = none := by simpa using World.cell?_spot h
  subst hspot
  rfl

theorem arg_of_trod {H : Type} {enc : TypeId × Value → H} {W : World} {r : Reach} {b0 : Nat} {v : Value} {d : DataW H} {ps : List MemPlace} (hval : Value.okWide Try.prog W r b0 25 v) (h : DataW.Trod enc Try.prog W 0 (fun _ => true) true 25 v d ps) : ∃ I, ArgIs W v I := by
  obtain ⟨a0, len0, cap0, rfl⟩ := okWide_slice Try.underlying25 hval
  obtain ⟨fuel, hf⟩ := h
  rcases open_int_rows Try.underlying25 Try.underlying33 Try.underlying5 (by kernel_rfl) (by kernel_rfl) hf with ⟨hcs, _⟩ | ⟨a, len, cap, A, L, C, Z, hcs, _, hl, hm, _, hrow⟩
  · simp [Value.cells] at hcs
    obtain ⟨rfl, rfl, rfl⟩ := hcs
    exact ⟨[], Or.inl ⟨rfl, none, 0, rfl⟩⟩
  · simp [Value.cells] at hcs
    obtain ⟨rfl, rfl, rfl⟩ := hcs
    rcases Nat.eq_zero_or_pos len0 with h0 | hpos
    · subst h0
      exact ⟨[], Or.inl ⟨rfl, some a, cap0, rfl⟩⟩
    · have hp := plain_addr (hrow 0 (by omega)).1
      have hp0 : a.add 0 = a := by simp [Addr.add]
      rw [hp0] at hp
      obtain ⟨b, o, spot⟩ := a
      simp only [Addr.mk.injEq] at hp
      obtain ⟨_, _, rfl⟩ := hp
      unfold maxLen at hm
      refine ⟨_, Or.inr ⟨b, o, len0, cap0, A, L, C, fun r => ((Z r).take (L r)).map (fun n => UInt8.ofNat n.toNat), rfl, hpos, by omega, ?_, rfl⟩⟩
      refine ⟨fun r hr => ?_, fun r hr => ?_, fun r hr hA => ?_, fun r hr => ?_, fun r hr hL => ?_⟩
      · have := (hrow r (by omega)).1
        rwa [Go.WideShapes.add_plain] at this
      · have hh := hrow r (by omega)
        simp only [List.length_map, List.length_take]
        omega
      · have hh := hrow r (by omega)
        have := hh.2.2.2.2.2.1 hA
        omega
      · have hh := hrow r (by omega)
        have h3 := hh.2.2.1
        unfold maxLen at h3
        omega
      · obtain ⟨_, h2, h3, h4, h5, h6, h7⟩ := hrow r (by omega)
        cases hA : A r with
        | none => have := h6 hA; omega
        | some a' =>
          obtain ⟨_, hc⟩ := h7 a' hA
          have hp2 := plain_addr (hc 0 (by omega))
          have hp3 : a'.add 0 = a' := by simp [Addr.add]
          rw [hp3] at hp2
          obtain ⟨b', o', spot⟩ := a'
          simp only [Addr.mk.injEq] at hp2
          obtain ⟨_, _, rfl⟩ := hp2
          refine ⟨b', o', rfl, fun j hj => ?_⟩
          have hj2 : j < L r := by simp only [List.length_map, List.length_take] at hj; omega
          have hjC : j < (Z r).length := by omega
          have := hc j (by omega)
          rw [Go.WideShapes.add_plain] at this
          rw [this]
          have e1 : (Z r).getD j 0 = (Z r)[j] := by simp [List.getD, List.getElem?_eq_getElem hjC]
          rw [e1]
          simp only [List.getElem_map, List.getElem_take]
          rw [byte_back _ (h5 _ (List.getElem_mem hjC))]
end Go.Proofs.Qxb6001793a
