/-
  THE WALK OF scanStringEndB1.
-/
import Derived.Test.Qxb6601290aDoorExpect
namespace Go.Proofs.Qxb6601290aDoor
open Go.RowKit

/-- How many bytes up to and with the closing quote. -/
def scan : List UInt8 → Option Nat
  | [] => none
  | c :: t => if c = 92 then (match t with | [] => none | _ :: t' => (scan t').map (· + 2)) else if c = 34 then some 1 else (scan t).map (· + 1)

theorem scan_bs (d : UInt8) (t : List UInt8) : scan (92 :: d :: t) = (scan t).map (· + 2) := by rw [scan, if_pos rfl]
theorem scan_q (t : List UInt8) : scan (34 :: t) = some 1 := by rw [scan.eq_def]; simp
theorem scan_other (c : UInt8) (t : List UInt8) (h1 : c ≠ 92) (h2 : c ≠ 34) : scan (c :: t) = (scan t).map (· + 1) := by rw [scan.eq_def]; simp [h1, h2]

theorem ret2_int {a b : Int} {x : Value} (h : a = b) : Ending.returned (.tuple #[.int .i64 a, x]) = .returned (.tuple #[.int .i64 b, x]) := by rw [h]

theorem hexd_ne (n : Nat) (h : n < 16) : P.hexd n ≠ 92 ∧ P.hexd n ≠ 34 := by
  have all : ∀ m : Fin 16, P.hexd m.1 ≠ 92 ∧ P.hexd m.1 ≠ 34 := by decide
  exact all ⟨n, h⟩

theorem scan_esc (c : UInt8) (t : List UInt8) : scan (P.esc c ++ t) = (scan t).map (· + (P.esc c).length) := by
  have hc := c.toNat_lt
  have h1 := hexd_ne (c.toNat / 16) (by omega)
  have h2 := hexd_ne (c.toNat % 16) (by omega)
  unfold P.esc
  repeat' split
  all_goals simp only [List.cons_append, List.nil_append, List.length_cons, List.length_nil]
  all_goals first | (rw [scan_bs]) | skip
  · rw [scan_other 48 _ (by decide) (by decide), scan_other 48 _ (by decide) (by decide), scan_other _ _ h1.1 h1.2, scan_other _ _ h2.1 h2.2]
    simp only [Option.map_map]
    rfl
  · rename_i a b _ _ _ _ _ _
    rw [scan_other _ _ b a]

theorem scan_escs (l t : List UInt8) : scan (P.escs l ++ 34 :: t) = some ((P.escs l).length + 1) := by
  induction l with
  | nil => simp [P.escs_nil, scan_q]
  | cons c l ih =>
    rw [P.escs_cons, List.append_assoc, scan_esc, ih]
    simp; omega

/-- What one round sees. -/
theorem scan_round (m : ByteArray) (k r : Nat) (h : scan (m.data.toList.drop k) = some r) : ∃ hk : k < m.size,
    (((m[k]'hk).toNat : Int) = 92 → k + 2 ≤ m.size ∧ ∃ r', r = r' + 2 ∧ scan (m.data.toList.drop (k + 2)) = some r') ∧
    (((m[k]'hk).toNat : Int) = 34 → r = 1) ∧
    (¬ ((m[k]'hk).toNat : Int) = 92 → ¬ ((m[k]'hk).toNat : Int) = 34 → ∃ r', r = r' + 1 ∧ scan (m.data.toList.drop (k + 1)) = some r') := by
  have hl : m.data.toList.length = m.size := rfl
  have hk : k < m.size := by
    rcases Nat.lt_or_ge k m.size with h' | h'
    · exact h'
    · rw [List.drop_eq_nil_of_le (by omega)] at h
      simp [scan] at h
  have e : m.data.toList.drop k = (m[k]'hk) :: m.data.toList.drop (k + 1) := List.drop_eq_getElem_cons (by omega)
  have byte : ∀ n : Nat, n < 256 → ((m[k]'hk).toNat : Int) = n → (m[k]'hk) = UInt8.ofNat n := fun n hn hh => by
    apply UInt8.toNat_inj.1
    rw [UInt8.toNat_ofNat']; omega
  refine ⟨hk, ?_, ?_, ?_⟩
  · intro h92
    rw [e, byte 92 (by decide) h92] at h
    rcases Nat.lt_or_ge (k + 1) m.size with h' | h'
    · have e2 : m.data.toList.drop (k + 1) = (m[k + 1]'h') :: m.data.toList.drop (k + 2) := List.drop_eq_getElem_cons (by omega)
      rw [e2] at h
      have h3 := (scan_bs _ _).symm.trans h
      cases hs : scan (m.data.toList.drop (k + 2)) with
      | none => rw [hs] at h3; simp at h3
      | some r' => rw [hs] at h3; simp at h3; exact ⟨by omega, r', by omega, rfl⟩
    · rw [List.drop_eq_nil_of_le (by omega)] at h
      simp [scan] at h
  · intro h34
    rw [e, byte 34 (by decide) h34] at h
    have h3 := (scan_q _).symm.trans h
    simp at h3; omega
  · intro n92 n34
    rw [e, scan_other _ _ (fun hh => n92 (by rw [hh]; rfl)) (fun hh => n34 (by rw [hh]; rfl))] at h
    cases hs : scan (m.data.toList.drop (k + 1)) with
    | none => rw [hs] at h; simp at h
    | some r' => rw [hs] at h; simp at h; exact ⟨r', by omega, rfl⟩

set_option maxHeartbeats 1000000 in
set_option maxRecDepth 100000 in
theorem scan_walk (m : ByteArray) (p r : Nat) (w : World) (hms : m.size ≤ 16777216) (hp : p < m.size) (hq : ((m[p]'hp).toNat : Int) = 34) (hr : scan (m.data.toList.drop (p + 1)) = some r) :
    Calls Tryd.prog 16 #[.string m, .int .i64 (p : Int)] w fun e w' => e = .returned (.tuple #[.int .i64 ((p : Int) + 1 + r), .bool true]) ∧ w' = w := by
  have HR : Hid (scan (m.data.toList.drop (p + 1)) = some r) := hr
  have hq1 : ((m[p].toNat : Int) != 34) = false := by simp [hq]
  clear hr hq
  go_enter Tryd.func16, Tryd.ntmps16
  go_wp2
  go_loopg [6] r (fun g i wr => ∃ k g' : Nat, g = g' ∧ g' + k = p + 1 + r ∧ k ≤ m.size ∧ i = .int .i64 k ∧ Hid (scan (m.data.toList.drop k) = some g') ∧ wr = w)
  case atStart => exact ⟨p + 1, r, rfl, by omega, by omega, by go_num, HR.out, rfl⟩
  case round =>
    obtain ⟨k, g', rfl, hg, hk, rfl, H0, rfl⟩ := hrel
    have Hg : Hid (gk + k = p + 1 + r) := hg
    clear hg
    obtain ⟨hlt, a1, a2, a3⟩ := scan_round m k gk H0.out
    by_cases h92 : (m[k].toNat : Int) = 92
    · obtain ⟨hk2, r', hr', hs⟩ := a1 h92
      have HS : Hid (scan (m.data.toList.drop (k + 2)) = some r') := hs
      have Hr : Hid (gk = r' + 2) := hr'
      have e92 : ((m[k].toNat : Int) == 92) = true := by simp [h92]
      clear a1 a2 a3 h92 hs hr'
      go_wp2
      go_roundg r'
      case measure => have := Hr.out; omega
      case rel => have := Hr.out; have := Hg.out; exact ⟨k + 2, r', rfl, by omega, by omega, by go_num, HS, rfl⟩
    · by_cases h34 : (m[k].toNat : Int) = 34
      · have hr1 := a2 h34
        have Hr : Hid (gk = 1) := hr1
        have e92 : ((m[k].toNat : Int) == 92) = false := by simp [h92]
        have e34 : ((m[k].toNat : Int) == 34) = true := by simp [h34]
        clear a1 a2 a3 h92 h34 hr1
        go_wp2
        go_ret2
        have h1 := Hr.out
        have h2 := Hg.out
        exact ⟨ret2_int (by omega), rfl⟩
      · obtain ⟨r', hr', hs⟩ := a3 h92 h34
        have HS : Hid (scan (m.data.toList.drop (k + 1)) = some r') := hs
        have Hr : Hid (gk = r' + 1) := hr'
        have e92 : ((m[k].toNat : Int) == 92) = false := by simp [h92]
        have e34 : ((m[k].toNat : Int) == 34) = false := by simp [h34]
        clear a1 a2 a3 h92 h34 hs hr'
        go_wp2
        go_roundg r'
        case measure => have := Hr.out; omega
        case rel => have := Hr.out; have := Hg.out; exact ⟨k + 1, r', rfl, by omega, by omega, by go_num, HS, rfl⟩

/-- THE LITERAL's END IS FOUND. -/
theorem scan_any (m : ByteArray) (i : Int) (a l c : List UInt8) (w : World) (hm : m.data.toList = a ++ (P.lit l ++ c)) (hi : i = a.length) (hms : m.size ≤ 16777216) :
    Calls Tryd.prog 16 #[.string m, .int .i64 i] w fun e w' => ∃ j : Int, e = .returned (.tuple #[.int .i64 j, .bool true]) ∧ j = (a ++ P.lit l).length ∧ w' = w := by
  subst hi
  have hsz := size_of_parts m a _ _ hm
  have hln := P.lit_len l
  have hp : a.length < m.size := by omega
  have hm3 : m.data.toList = a ++ ([34] ++ (P.escs l ++ 34 :: c)) := by rw [hm, P.lit]; simp
  have hr : scan (m.data.toList.drop (a.length + 1)) = some ((P.escs l).length + 1) := by
    have e : m.data.toList.drop (a.length + 1) = P.escs l ++ 34 :: c := by
      rw [hm3, ← List.append_assoc, show a.length + 1 = (a ++ [34]).length by simp, List.drop_left]
    rw [e, scan_escs]
  obtain ⟨h, e0⟩ := mid_at m a [34] _ hm3 0 (by simp)
  have e1 : m[a.length]'hp = 34 := e0
  refine (scan_walk m a.length _ w hms hp (by rw [e1]; rfl) hr).mono ?_
  rintro e w' ⟨rfl, rfl⟩
  exact ⟨_, rfl, by simp [P.lit]; omega, rfl⟩
end Go.Proofs.Qxb6601290aDoor
