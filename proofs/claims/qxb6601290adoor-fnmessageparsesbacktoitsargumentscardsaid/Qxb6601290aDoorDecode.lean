/-
  THE WALKS OF lowerHexDigitB1 AND decodeCanonicalB1.
-/
import Derived.Test.Qxb6601290aDoorExpect
import Derived.Test.Qxb6601290aDoorWrite
import Derived.Laws.IdiomStrings
namespace Go.Proofs.Qxb6601290aDoor
open Go.RowKit

theorem Tryd.info5 : (Tryd.prog.info? 5).map (fun i => (i.zero, i.size, i.bytes)) = some (some (.int .u8 0), 1, 1) := by kernel_rfl

theorem hexd_val (k : Nat) (h : k < 16) : ((P.hexd k).toNat : Int) = if k < 10 then 48 + (k : Int) else 87 + (k : Int) := by
  have all : ∀ m : Fin 16, ((P.hexd m.1).toNat : Int) = if m.1 < 10 then 48 + (m.1 : Int) else 87 + (m.1 : Int) := by decide
  exact all ⟨k, h⟩

theorem ret1_int {a b : Int} (h : a = b) : Ending.returned (.int .i64 a) = .returned (.int .i64 b) := by rw [h]

/-- A digit is read back. -/
theorem lowhex (k : Nat) (c : Int) (w : World) (h : k < 16) (hc : c = (P.hexd k).toNat) : Calls Tryd.prog 21 #[.int .u8 c] w fun e w' => e = .returned (.int .i64 (k : Int)) ∧ w = w' := by
  rw [hexd_val k h] at hc
  by_cases hk : k < 10
  · rw [if_pos hk] at hc
    subst hc
    go_enter Tryd.func21, Tryd.ntmps21
    go_wp2
    go_ret
    exact ⟨ret1_int (by omega), rfl⟩
  · rw [if_neg hk] at hc
    subst hc
    go_enter Tryd.func21, Tryd.ntmps21
    go_wp2
    go_ret
    exact ⟨ret1_int (by omega), rfl⟩

/-- Where the loop stands behind s1. -/
def dpos (s1 : List UInt8) : Nat := 1 + (P.escs s1).length

theorem dpos_snoc (s1 : List UInt8) (c : UInt8) : dpos (s1 ++ [c]) = dpos s1 + (P.esc c).length := by unfold dpos; rw [P.escs_snoc, List.length_append]; omega

/-- What one round sees. -/
theorem dround (t : ByteArray) (S s1 s3 : List UInt8) (c : UInt8) (hm : t.data.toList = P.lit S) (hS : S = s1 ++ c :: s3) :
    (∀ j (hj : j < (P.esc c).length), ∃ h : dpos s1 + j < t.size, t[dpos s1 + j]'h = (P.esc c)[j]) ∧ dpos s1 + (P.esc c).length + 1 ≤ t.size ∧ s1.length < t.size := by
  have hm2 : t.data.toList = (34 :: P.escs s1) ++ (P.esc c ++ (P.escs s3 ++ [34])) := by
    rw [hm, hS, P.lit, P.escs_append, P.escs_cons]; simp
  have hsz := size_of_parts t _ _ _ hm2
  have hl := P.escs_len s1
  simp only [List.length_cons, List.length_append, List.length_nil] at hsz
  have hd : (34 :: P.escs s1).length = dpos s1 := by simp [dpos]; omega
  refine ⟨fun j hj => ?_, by unfold dpos; omega, by omega⟩
  have h := mid_at t (34 :: P.escs s1) (P.esc c) _ hm2 j hj
  rw [hd] at h
  exact h

theorem dend (t : ByteArray) (S s1 : List UInt8) (hm : t.data.toList = P.lit S) (hS : S = s1 ++ []) : dpos s1 + 1 = t.size := by
  have hl : t.data.toList.length = t.size := rfl
  rw [← hl, hm, hS, P.lit, dpos]; simp; omega

/-- An own row of bytes, cell by cell. -/
theorem own_cells {w : World} {B b n cap : Nat} {l : List UInt8} (h : w.ownsRow B 5 1 (.slice (some ⟨b, 0, none⟩) n cap) n (Lib.byteCells l)) (hn : n = l.length) : ∀ j (hj : j < l.length), w.cell? ((⟨b, 0, none⟩ : Addr).add j) = some (.int .u8 (l[j].toNat : Int)) := by
  intro j hj
  have hplain : (⟨b, 0, none⟩ : Addr).add j = ⟨b, j, none⟩ := by unfold Addr.add; split <;> simp_all
  rw [hplain]
  obtain ⟨_, h2⟩ := h
  rcases h2 with ⟨h0, _⟩ | ⟨g, cap', cur, hv, _, hg, hcap, _, hcs, htk⟩
  · cases h0
  · cases hv
    have h1 : cur[j]? = some (.int .u8 (l[j].toNat : Int)) := by
      have e : (cur.toList.take (n * 1))[j]? = (Lib.byteCells l)[j]? := by rw [htk]
      rw [List.getElem?_take_of_lt (by omega)] at e
      rw [← Array.getElem?_toList, e]
      simp [Lib.byteCells, List.getElem?_eq_getElem hj]
    simp [World.cell?, hg, h1]

theorem at_lit (t : ByteArray) (q : Nat) (l l' : List UInt8) (h : l = l') (hat : ∀ j (hj : j < l.length), ∃ h : q + j < t.size, t[q + j]'h = l[j]) (j : Nat) (hj : j < l'.length) : ∃ h : q + j < t.size, ((t[q + j]'h).toNat : Int) = (l'[j].toNat : Int) := by
  subst h
  obtain ⟨h, e⟩ := hat j hj
  exact ⟨h, by rw [e]⟩
theorem at_lit0 (t : ByteArray) (q : Nat) (l : List UInt8) (c : UInt8) (r : List UInt8) (h : l = c :: r) (hat : ∀ j (hj : j < l.length), ∃ h : q + j < t.size, t[q + j]'h = l[j]) : ∃ h : q < t.size, ((t[q]'h).toNat : Int) = (c.toNat : Int) :=
  at_lit t q l (c :: r) h hat 0 (by simp)

theorem ret2_str {a b : ByteArray} {x : Value} (h : a = b) : Ending.returned (.tuple #[.string a, x]) = .returned (.tuple #[.string b, x]) := by rw [h]

theorem one_new (w : World) (x : Value) : ∀ j u, [x][j]? = some u → (w.alloc (.cells #[x] 5)).cell? ((⟨w.heap.size, 0, none⟩ : Addr).add j) = some u := by
  intro j u hj
  match j, hj with
  | 0, hj =>
    simp at hj
    subst hj
    simp [Addr.add]

set_option maxHeartbeats 2000000 in
set_option maxRecDepth 100000 in
theorem decode_walk (t : ByteArray) (S : List UInt8) (w : World) (hts : t.size ≤ 16777216) (hm : t.data.toList = P.lit S) :
    Calls Tryd.prog 17 #[.string t] w fun e w' => e = .returned (.tuple #[.string ⟨S.toArray⟩, .bool true]) ∧ Below w.heap.size w w' := by
  obtain ⟨i0, hi, hz0, hz1, hz2⟩ := info_parts Tryd.info5
  have hsz : t.size = (P.escs S).length + 2 := by
    have hl : t.data.toList.length = t.size := rfl
    rw [← hl, hm, P.lit]; simp
  have hlast := mid_at t (34 :: P.escs S) [34] [] (by rw [hm, P.lit]; simp) 0 (by simp)
  have hfirst := mid_at t [] [34] (P.escs S ++ [34]) (by rw [hm, P.lit]; simp) 0 (by simp)
  have hn2 : 2 ≤ t.size := by omega
  have z0 : 0 < t.size := by omega
  have z1 : t.size - 1 < t.size := by omega
  have f0 : ((t[0]'z0).toNat : Int) = 34 := by obtain ⟨h, e⟩ := hfirst; simp only [List.length_nil] at e; rw [e]; rfl
  have f1 : ((t[t.size - 1]'z1).toNat : Int) = 34 := by
    obtain ⟨h, e⟩ := hlast
    have e2 : (34 :: P.escs S).length + 0 = t.size - 1 := by simp; omega
    simp only [e2] at e
    rw [e]; rfl
  have HM : Hid (t.data.toList = P.lit S) := hm
  have hd2 : decide ((t.size : Int) < 2) = false := by simp; omega
  clear hm hsz hlast hfirst
  go_enter Tryd.func17, Tryd.ntmps17
  go_wp2_with (at_make; refine wpList_make_own _ rfl _ _ 24 rfl w.heap.size 5 i0 (.int .u8 0) 1 Tryd.underlying24 hi hz0 hz1 _ _ _ t.size rfl rfl rfl ?b2 ?b3 (Nat.le_refl _) ?_)
  case b2 => rw [hz2]; omega
  case b3 => unfold maxLen; omega
  intro w1 hown1 hgrow1
  have B1 : Below w.heap.size w w1 := (Below.refl _ w).grown hgrow1 (Nat.le_refl _) (by intro k hk; cases hk)
  go_wp2_with fail
  go_loopg [5, 6] S.length (fun g o i wr => ∃ s1 s2 : List UInt8, Hid (S = s1 ++ s2) ∧ Hid (g = s2.length) ∧ o = .slice (some ⟨w.heap.size, 0, none⟩) s1.length t.size ∧ i = .int .i64 (dpos s1 : Int) ∧ wr.ownsRow w.heap.size 5 1 (.slice (some ⟨w.heap.size, 0, none⟩) s1.length t.size) s1.length (Lib.byteCells s1) ∧ Below w.heap.size w wr)
  case atStart => exact ⟨[], S, rfl, rfl, rfl, rfl, hown1, B1⟩
  case round =>
    obtain ⟨s1, s2, HS, Hg, rfl, rfl, hown, hbw⟩ := hrel
    clear hown1 hgrow1 B1
    have hbs := hbw.size
    cases s2 with
    | nil =>
      have HQ : Hid (dpos s1 + 1 = t.size) := dend t S s1 HM.out HS.out
      have kc2 := run_convert_bytes_back (P := Tryd.prog) wr 24 9 5 ⟨w.heap.size, 0, none⟩ t.size s1 Tryd.underlying24 Tryd.underlying5 Tryd.underlying9 (own_cells hown rfl)
      have hlt : ¬ (dpos s1 : Int) < (t.size : Int) - 1 := by have := HQ.out; omega
      generalize dpos s1 = q at *
      go_wp2_with fail
      go_ret2
      exact ⟨ret2_str (a := ⟨s1.toArray⟩) (by rw [HS.out, List.append_nil]), hbw⟩
    | cons c s3 =>
      obtain ⟨hat, hfit, hcap⟩ := dround t S s1 s3 c HM.out HS.out
      have HDs : Hid (dpos (s1 ++ [c]) = dpos s1 + (P.esc c).length) := dpos_snoc s1 c
      have HA : Hid (∀ j (hj : j < (P.esc c).length), ∃ h : dpos s1 + j < t.size, t[dpos s1 + j]'h = (P.esc c)[j]) := hat
      clear hat
      by_cases h34 : (c.toNat : Int) = 34
      · have HE : Hid (P.esc c = [92, 34]) := by rw [byte_of _ 34 (by decide) h34]; rfl
        have HC : Hid ((c.toNat : Int) = 34) := h34
        obtain ⟨x0, y0⟩ := at_lit0 t (dpos s1) _ _ _ HE.out HA.out
        obtain ⟨x1, y1⟩ := at_lit t (dpos s1) _ _ HE.out HA.out 1 (by decide)
        have y0 : ((t[dpos s1]'x0).toNat : Int) = 92 := y0
        have y1 : ((t[dpos s1 + 1]'x1).toNat : Int) = 34 := y1
        rw [HE.out] at hfit
        simp only [List.length_cons, List.length_nil] at hfit
        clear HA h34
        generalize dpos s1 = q at *
        go_wp2_with (at_builtin; refine wpList_append_fits _ rfl (.tmp 61) (.tmp 62) 24 rfl w.heap.size 5 i0 1 Tryd.underlying24 hi hz1 w.heap.size s1.length t.size (Lib.byteCells s1) rfl (hown.alloc _) ⟨wr.heap.size, 0, none⟩ 1 1 [.int .u8 34] rfl rfl (one_new _ _) (by intro u hu; simp at hu; subst hu; rfl) (by omega) ?_)
        intro w2 hown2 hgrow2
        have B2 : Below w.heap.size w w2 := (hbw.alloc hbs _).grown hgrow2 (by simp; omega) (by intro k hk; simp at hk; omega)
        clear hown hgrow2
        go_wp2_with fail
        go_roundg s3.length
        case measure => have := Hg.out; simp at this; omega
        case rel =>
          have hE := HE.out
          have hDs := HDs.out
          rw [hE] at hDs
          refine ⟨s1 ++ [c], s3, by rw [Hid, HS.out]; simp, rfl, by simp, ?_, ?_, B2⟩
          · rw [hDs]; simp only [List.length_cons, List.length_nil]; go_num
          · rw [Lib.byteCells_append]
            have ev : Lib.byteCells [c] = [.int .u8 34] := by simp [Lib.byteCells, HC.out]
            rw [ev]
            simpa using hown2
      by_cases h92 : (c.toNat : Int) = 92
      · have HE : Hid (P.esc c = [92, 92]) := by rw [byte_of _ 92 (by decide) h92]; rfl
        have HC : Hid ((c.toNat : Int) = 92) := h92
        obtain ⟨x0, y0⟩ := at_lit0 t (dpos s1) _ _ _ HE.out HA.out
        obtain ⟨x1, y1⟩ := at_lit t (dpos s1) _ _ HE.out HA.out 1 (by decide)
        have y0 : ((t[dpos s1]'x0).toNat : Int) = 92 := y0
        have y1 : ((t[dpos s1 + 1]'x1).toNat : Int) = 92 := y1
        rw [HE.out] at hfit
        simp only [List.length_cons, List.length_nil] at hfit
        clear HA h34 h92
        generalize dpos s1 = q at *
        go_wp2_with (at_builtin; refine wpList_append_fits _ rfl (.tmp 68) (.tmp 69) 24 rfl w.heap.size 5 i0 1 Tryd.underlying24 hi hz1 w.heap.size s1.length t.size (Lib.byteCells s1) rfl (hown.alloc _) ⟨wr.heap.size, 0, none⟩ 1 1 [.int .u8 92] rfl rfl (one_new _ _) (by intro u hu; simp at hu; subst hu; rfl) (by omega) ?_)
        intro w2 hown2 hgrow2
        have B2 : Below w.heap.size w w2 := (hbw.alloc hbs _).grown hgrow2 (by simp; omega) (by intro k hk; simp at hk; omega)
        clear hown hgrow2
        go_wp2_with fail
        go_roundg s3.length
        case measure => have := Hg.out; simp at this; omega
        case rel =>
          have hE := HE.out
          have hDs := HDs.out
          rw [hE] at hDs
          refine ⟨s1 ++ [c], s3, by rw [Hid, HS.out]; simp, rfl, by simp, ?_, ?_, B2⟩
          · rw [hDs]; simp only [List.length_cons, List.length_nil]; go_num
          · rw [Lib.byteCells_append]
            have ev : Lib.byteCells [c] = [.int .u8 92] := by simp [Lib.byteCells, HC.out]
            rw [ev]
            simpa using hown2
      by_cases h8 : (c.toNat : Int) = 8
      · have HE : Hid (P.esc c = [92, 98]) := by rw [byte_of _ 8 (by decide) h8]; rfl
        have HC : Hid ((c.toNat : Int) = 8) := h8
        obtain ⟨x0, y0⟩ := at_lit0 t (dpos s1) _ _ _ HE.out HA.out
        obtain ⟨x1, y1⟩ := at_lit t (dpos s1) _ _ HE.out HA.out 1 (by decide)
        have y0 : ((t[dpos s1]'x0).toNat : Int) = 92 := y0
        have y1 : ((t[dpos s1 + 1]'x1).toNat : Int) = 98 := y1
        rw [HE.out] at hfit
        simp only [List.length_cons, List.length_nil] at hfit
        clear HA h34 h92 h8
        generalize dpos s1 = q at *
        go_wp2_with (at_builtin; refine wpList_append_fits _ rfl (.tmp 75) (.tmp 76) 24 rfl w.heap.size 5 i0 1 Tryd.underlying24 hi hz1 w.heap.size s1.length t.size (Lib.byteCells s1) rfl (hown.alloc _) ⟨wr.heap.size, 0, none⟩ 1 1 [.int .u8 8] rfl rfl (one_new _ _) (by intro u hu; simp at hu; subst hu; rfl) (by omega) ?_)
        intro w2 hown2 hgrow2
        have B2 : Below w.heap.size w w2 := (hbw.alloc hbs _).grown hgrow2 (by simp; omega) (by intro k hk; simp at hk; omega)
        clear hown hgrow2
        go_wp2_with fail
        go_roundg s3.length
        case measure => have := Hg.out; simp at this; omega
        case rel =>
          have hE := HE.out
          have hDs := HDs.out
          rw [hE] at hDs
          refine ⟨s1 ++ [c], s3, by rw [Hid, HS.out]; simp, rfl, by simp, ?_, ?_, B2⟩
          · rw [hDs]; simp only [List.length_cons, List.length_nil]; go_num
          · rw [Lib.byteCells_append]
            have ev : Lib.byteCells [c] = [.int .u8 8] := by simp [Lib.byteCells, HC.out]
            rw [ev]
            simpa using hown2
      by_cases h12 : (c.toNat : Int) = 12
      · have HE : Hid (P.esc c = [92, 102]) := by rw [byte_of _ 12 (by decide) h12]; rfl
        have HC : Hid ((c.toNat : Int) = 12) := h12
        obtain ⟨x0, y0⟩ := at_lit0 t (dpos s1) _ _ _ HE.out HA.out
        obtain ⟨x1, y1⟩ := at_lit t (dpos s1) _ _ HE.out HA.out 1 (by decide)
        have y0 : ((t[dpos s1]'x0).toNat : Int) = 92 := y0
        have y1 : ((t[dpos s1 + 1]'x1).toNat : Int) = 102 := y1
        rw [HE.out] at hfit
        simp only [List.length_cons, List.length_nil] at hfit
        clear HA h34 h92 h8 h12
        generalize dpos s1 = q at *
        go_wp2_with (at_builtin; refine wpList_append_fits _ rfl (.tmp 82) (.tmp 83) 24 rfl w.heap.size 5 i0 1 Tryd.underlying24 hi hz1 w.heap.size s1.length t.size (Lib.byteCells s1) rfl (hown.alloc _) ⟨wr.heap.size, 0, none⟩ 1 1 [.int .u8 12] rfl rfl (one_new _ _) (by intro u hu; simp at hu; subst hu; rfl) (by omega) ?_)
        intro w2 hown2 hgrow2
        have B2 : Below w.heap.size w w2 := (hbw.alloc hbs _).grown hgrow2 (by simp; omega) (by intro k hk; simp at hk; omega)
        clear hown hgrow2
        go_wp2_with fail
        go_roundg s3.length
        case measure => have := Hg.out; simp at this; omega
        case rel =>
          have hE := HE.out
          have hDs := HDs.out
          rw [hE] at hDs
          refine ⟨s1 ++ [c], s3, by rw [Hid, HS.out]; simp, rfl, by simp, ?_, ?_, B2⟩
          · rw [hDs]; simp only [List.length_cons, List.length_nil]; go_num
          · rw [Lib.byteCells_append]
            have ev : Lib.byteCells [c] = [.int .u8 12] := by simp [Lib.byteCells, HC.out]
            rw [ev]
            simpa using hown2
      by_cases h10 : (c.toNat : Int) = 10
      · have HE : Hid (P.esc c = [92, 110]) := by rw [byte_of _ 10 (by decide) h10]; rfl
        have HC : Hid ((c.toNat : Int) = 10) := h10
        obtain ⟨x0, y0⟩ := at_lit0 t (dpos s1) _ _ _ HE.out HA.out
        obtain ⟨x1, y1⟩ := at_lit t (dpos s1) _ _ HE.out HA.out 1 (by decide)
        have y0 : ((t[dpos s1]'x0).toNat : Int) = 92 := y0
        have y1 : ((t[dpos s1 + 1]'x1).toNat : Int) = 110 := y1
        rw [HE.out] at hfit
        simp only [List.length_cons, List.length_nil] at hfit
        clear HA h34 h92 h8 h12 h10
        generalize dpos s1 = q at *
        go_wp2_with (at_builtin; refine wpList_append_fits _ rfl (.tmp 89) (.tmp 90) 24 rfl w.heap.size 5 i0 1 Tryd.underlying24 hi hz1 w.heap.size s1.length t.size (Lib.byteCells s1) rfl (hown.alloc _) ⟨wr.heap.size, 0, none⟩ 1 1 [.int .u8 10] rfl rfl (one_new _ _) (by intro u hu; simp at hu; subst hu; rfl) (by omega) ?_)
        intro w2 hown2 hgrow2
        have B2 : Below w.heap.size w w2 := (hbw.alloc hbs _).grown hgrow2 (by simp; omega) (by intro k hk; simp at hk; omega)
        clear hown hgrow2
        go_wp2_with fail
        go_roundg s3.length
        case measure => have := Hg.out; simp at this; omega
        case rel =>
          have hE := HE.out
          have hDs := HDs.out
          rw [hE] at hDs
          refine ⟨s1 ++ [c], s3, by rw [Hid, HS.out]; simp, rfl, by simp, ?_, ?_, B2⟩
          · rw [hDs]; simp only [List.length_cons, List.length_nil]; go_num
          · rw [Lib.byteCells_append]
            have ev : Lib.byteCells [c] = [.int .u8 10] := by simp [Lib.byteCells, HC.out]
            rw [ev]
            simpa using hown2
      by_cases h13 : (c.toNat : Int) = 13
      · have HE : Hid (P.esc c = [92, 114]) := by rw [byte_of _ 13 (by decide) h13]; rfl
        have HC : Hid ((c.toNat : Int) = 13) := h13
        obtain ⟨x0, y0⟩ := at_lit0 t (dpos s1) _ _ _ HE.out HA.out
        obtain ⟨x1, y1⟩ := at_lit t (dpos s1) _ _ HE.out HA.out 1 (by decide)
        have y0 : ((t[dpos s1]'x0).toNat : Int) = 92 := y0
        have y1 : ((t[dpos s1 + 1]'x1).toNat : Int) = 114 := y1
        rw [HE.out] at hfit
        simp only [List.length_cons, List.length_nil] at hfit
        clear HA h34 h92 h8 h12 h10 h13
        generalize dpos s1 = q at *
        go_wp2_with (at_builtin; refine wpList_append_fits _ rfl (.tmp 96) (.tmp 97) 24 rfl w.heap.size 5 i0 1 Tryd.underlying24 hi hz1 w.heap.size s1.length t.size (Lib.byteCells s1) rfl (hown.alloc _) ⟨wr.heap.size, 0, none⟩ 1 1 [.int .u8 13] rfl rfl (one_new _ _) (by intro u hu; simp at hu; subst hu; rfl) (by omega) ?_)
        intro w2 hown2 hgrow2
        have B2 : Below w.heap.size w w2 := (hbw.alloc hbs _).grown hgrow2 (by simp; omega) (by intro k hk; simp at hk; omega)
        clear hown hgrow2
        go_wp2_with fail
        go_roundg s3.length
        case measure => have := Hg.out; simp at this; omega
        case rel =>
          have hE := HE.out
          have hDs := HDs.out
          rw [hE] at hDs
          refine ⟨s1 ++ [c], s3, by rw [Hid, HS.out]; simp, rfl, by simp, ?_, ?_, B2⟩
          · rw [hDs]; simp only [List.length_cons, List.length_nil]; go_num
          · rw [Lib.byteCells_append]
            have ev : Lib.byteCells [c] = [.int .u8 13] := by simp [Lib.byteCells, HC.out]
            rw [ev]
            simpa using hown2
      by_cases h9 : (c.toNat : Int) = 9
      · have HE : Hid (P.esc c = [92, 116]) := by rw [byte_of _ 9 (by decide) h9]; rfl
        have HC : Hid ((c.toNat : Int) = 9) := h9
        obtain ⟨x0, y0⟩ := at_lit0 t (dpos s1) _ _ _ HE.out HA.out
        obtain ⟨x1, y1⟩ := at_lit t (dpos s1) _ _ HE.out HA.out 1 (by decide)
        have y0 : ((t[dpos s1]'x0).toNat : Int) = 92 := y0
        have y1 : ((t[dpos s1 + 1]'x1).toNat : Int) = 116 := y1
        rw [HE.out] at hfit
        simp only [List.length_cons, List.length_nil] at hfit
        clear HA h34 h92 h8 h12 h10 h13 h9
        generalize dpos s1 = q at *
        go_wp2_with (at_builtin; refine wpList_append_fits _ rfl (.tmp 103) (.tmp 104) 24 rfl w.heap.size 5 i0 1 Tryd.underlying24 hi hz1 w.heap.size s1.length t.size (Lib.byteCells s1) rfl (hown.alloc _) ⟨wr.heap.size, 0, none⟩ 1 1 [.int .u8 9] rfl rfl (one_new _ _) (by intro u hu; simp at hu; subst hu; rfl) (by omega) ?_)
        intro w2 hown2 hgrow2
        have B2 : Below w.heap.size w w2 := (hbw.alloc hbs _).grown hgrow2 (by simp; omega) (by intro k hk; simp at hk; omega)
        clear hown hgrow2
        go_wp2_with fail
        go_roundg s3.length
        case measure => have := Hg.out; simp at this; omega
        case rel =>
          have hE := HE.out
          have hDs := HDs.out
          rw [hE] at hDs
          refine ⟨s1 ++ [c], s3, by rw [Hid, HS.out]; simp, rfl, by simp, ?_, ?_, B2⟩
          · rw [hDs]; simp only [List.length_cons, List.length_nil]; go_num
          · rw [Lib.byteCells_append]
            have ev : Lib.byteCells [c] = [.int .u8 9] := by simp [Lib.byteCells, HC.out]
            rw [ev]
            simpa using hown2
      by_cases hctl : (c.toNat : Int) < 32
      · have HE : Hid (P.esc c = [92, 117, 48, 48, P.hexd (c.toNat / 16), P.hexd (c.toNat % 16)]) := esc_ctl c hctl h8 h9 h10 h12 h13
        obtain ⟨x0, y0⟩ := at_lit0 t (dpos s1) _ _ _ HE.out HA.out
        obtain ⟨x1, y1⟩ := at_lit t (dpos s1) _ _ HE.out HA.out 1 (by simp)
        obtain ⟨x2, y2⟩ := at_lit t (dpos s1) _ _ HE.out HA.out 2 (by simp)
        obtain ⟨x3, y3⟩ := at_lit t (dpos s1) _ _ HE.out HA.out 3 (by simp)
        obtain ⟨x4, y4⟩ := at_lit t (dpos s1) _ _ HE.out HA.out 4 (by simp)
        obtain ⟨x5, y5⟩ := at_lit t (dpos s1) _ _ HE.out HA.out 5 (by simp)
        have y0 : ((t[dpos s1]'x0).toNat : Int) = 92 := y0
        have y1 : ((t[dpos s1 + 1]'x1).toNat : Int) = 117 := y1
        have y2 : ((t[dpos s1 + 2]'x2).toNat : Int) = 48 := y2
        have y3 : ((t[dpos s1 + 3]'x3).toNat : Int) = 48 := y3
        have Y4 : Hid (((t[dpos s1 + 4]'x4).toNat : Int) = (P.hexd (c.toNat / 16)).toNat) := y4
        have Y5 : Hid (((t[dpos s1 + 5]'x5).toNat : Int) = (P.hexd (c.toNat % 16)).toNat) := y5
        have HC : Hid ((c.toNat : Int) = ((c.toNat / 16 : Nat) : Int) * 16 + ((c.toNat % 16 : Nat) : Int)) := by rw [Hid]; omega
        have v1 : c.toNat / 16 ≤ 1 := by omega
        have v2 : c.toNat % 16 ≤ 15 := by omega
        have v32 : ((c.toNat / 16 : Nat) : Int) * 16 + ((c.toNat % 16 : Nat) : Int) < 32 := by omega
        have n8 : (((c.toNat / 16 : Nat) : Int) * 16 + ((c.toNat % 16 : Nat) : Int) == 8) = false := by rw [beq_eq_false_iff_ne]; omega
        have n9 : (((c.toNat / 16 : Nat) : Int) * 16 + ((c.toNat % 16 : Nat) : Int) == 9) = false := by rw [beq_eq_false_iff_ne]; omega
        have n10 : (((c.toNat / 16 : Nat) : Int) * 16 + ((c.toNat % 16 : Nat) : Int) == 10) = false := by rw [beq_eq_false_iff_ne]; omega
        have n12 : (((c.toNat / 16 : Nat) : Int) * 16 + ((c.toNat % 16 : Nat) : Int) == 12) = false := by rw [beq_eq_false_iff_ne]; omega
        have n13 : (((c.toNat / 16 : Nat) : Int) * 16 + ((c.toNat % 16 : Nat) : Int) == 13) = false := by rw [beq_eq_false_iff_ne]; omega
        rw [HE.out] at hfit
        simp only [List.length_cons, List.length_nil] at hfit
        clear y4 y5 HA h34 h92 h8 h12 h10 h13 h9 hctl
        generalize c.toNat / 16 = vh at *
        generalize c.toNat % 16 = vl at *
        generalize dpos s1 = q at *
        go_wp2_with fail
        refine (lowhex vh _ _ (by omega) Y4.out).mono ?_
        rintro e w2 ⟨rfl, rfl⟩
        go_wp2_with fail
        refine (lowhex vl _ _ (by omega) Y5.out).mono ?_
        rintro e w2 ⟨rfl, rfl⟩
        go_wp2_with (at_builtin; refine wpList_append_fits _ rfl (.tmp 171) (.tmp 174) 24 rfl w.heap.size 5 i0 1 Tryd.underlying24 hi hz1 w.heap.size s1.length t.size (Lib.byteCells s1) rfl (hown.alloc _) ⟨wr.heap.size, 0, none⟩ 1 1 [.int .u8 ((vh : Int) * 16 + (vl : Int))] rfl rfl (one_new _ _) (by intro u hu; simp at hu; subst hu; rfl) (by omega) ?_)
        intro w2 hown2 hgrow2
        have B2 : Below w.heap.size w w2 := (hbw.alloc hbs _).grown hgrow2 (by simp; omega) (by intro k hk; simp at hk; omega)
        clear hown hgrow2
        go_wp2_with fail
        go_roundg s3.length
        case measure => have := Hg.out; simp at this; omega
        case rel =>
          have hE := HE.out
          have hDs := HDs.out
          rw [hE] at hDs
          refine ⟨s1 ++ [c], s3, by rw [Hid, HS.out]; simp, rfl, by simp, ?_, ?_, B2⟩
          · rw [hDs]; simp only [List.length_cons, List.length_nil]; go_num
          · rw [Lib.byteCells_append]
            have ev : Lib.byteCells [c] = [.int .u8 ((vh : Int) * 16 + (vl : Int))] := by rw [← HC.out]; rfl
            rw [ev]
            simpa using hown2
      · have HE : Hid (P.esc c = [c]) := esc_plain c hctl h34 h92
        obtain ⟨x0, y0⟩ := at_lit0 t (dpos s1) _ _ _ HE.out HA.out
        have y0 : ((t[dpos s1]'x0).toNat : Int) = (c.toNat : Int) := y0
        rw [HE.out] at hfit
        simp only [List.length_cons, List.length_nil] at hfit
        have g34 : ((c.toNat : Int) == 34) = false := by simp; omega
        have g92 : ((c.toNat : Int) != 92) = true := by rw [bne_iff_ne]; omega
        clear HA h34 h92 h8 h12 h10 h13 h9
        generalize dpos s1 = q at *
        go_wp2_with (at_builtin; refine wpList_append_fits _ rfl (.tmp 44) (.tmp 46) 24 rfl w.heap.size 5 i0 1 Tryd.underlying24 hi hz1 w.heap.size s1.length t.size (Lib.byteCells s1) rfl (hown.alloc _) ⟨wr.heap.size, 0, none⟩ 1 1 [.int .u8 (c.toNat : Int)] rfl rfl (one_new _ _) (by intro u hu; simp at hu; subst hu; rfl) (by omega) ?_)
        intro w2 hown2 hgrow2
        have B2 : Below w.heap.size w w2 := (hbw.alloc hbs _).grown hgrow2 (by simp; omega) (by intro k hk; simp at hk; omega)
        clear hown hgrow2
        go_wp2_with fail
        go_roundg s3.length
        case measure => have := Hg.out; simp at this; omega
        case rel =>
          have hE := HE.out
          have hDs := HDs.out
          rw [hE] at hDs
          refine ⟨s1 ++ [c], s3, by rw [Hid, HS.out]; simp, rfl, by simp, ?_, ?_, B2⟩
          · rw [hDs]; simp only [List.length_cons, List.length_nil]; go_num
          · rw [Lib.byteCells_append]
            have ev : Lib.byteCells [c] = [.int .u8 (c.toNat : Int)] := by simp [Lib.byteCells]
            rw [ev]
            simpa using hown2
end Go.Proofs.Qxb6601290aDoor
