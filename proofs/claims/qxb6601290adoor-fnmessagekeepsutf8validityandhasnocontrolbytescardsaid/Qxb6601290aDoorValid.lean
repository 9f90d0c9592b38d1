/-
  THE WALK OF validUTF8B1.
-/
import Derived.Test.Qxb6601290aDoorProg
import Derived.Test.Qxb6601290aDoorPlain
import Derived.WalkKit
import Derived.WalkSpells
import Derived.WalkLawsBesides
import Derived.Deep.LoopGhost
import Derived.Deep.CutBlock
import Derived.Deep.DeepCutAuto
namespace Go.Proofs.Qxb6601290aDoor
open Go.RowKit

/-- Ahead of place k the automaton stands at its start. -/
def At0 (s : ByteArray) (k : Nat) : Prop := P.run 0 (s.data.toList.take k) = 0

theorem vr_ascii (s : ByteArray) (k : Nat) (hlt : k < s.size) (H : At0 s k) (hc : ((s[k]'hlt).toNat : Int) < 128) : At0 s (k + 1) :=
  P.round_ascii (l := s.data.toList) hlt H (by have h : (s[k]'hlt).toNat < 128 := by omega
                                               exact h)
theorem vr_bad (s : ByteArray) (k : Nat) (hlt : k < s.size) (H : At0 s k) (hc1 : ¬ ((s[k]'hlt).toNat : Int) < 128) (hc : ((s[k]'hlt).toNat : Int) < 194 ∨ 245 ≤ ((s[k]'hlt).toNat : Int)) : P.valid s.data.toList = false :=
  P.round_bad (l := s.data.toList) hlt H (by have h : (128 ≤ (s[k]'hlt).toNat ∧ (s[k]'hlt).toNat < 194) ∨ 245 ≤ (s[k]'hlt).toNat := by omega
                                             exact h)
theorem vr_done (s : ByteArray) (k : Nat) (hk : k ≤ s.size) (hlt : ¬ k < s.size) (H : At0 s k) : P.valid s.data.toList = true := by
  have h : P.run 0 (s.data.toList.take k) = 0 := H
  have e : s.data.toList.length = s.size := rfl
  rw [List.take_of_length_le (by omega)] at h
  rw [P.valid, h]; rfl


theorem vr_short (s : ByteArray) (k need lo hi : Nat) (hlt : k < s.size) (H : At0 s k) (HL : P.Lead (s[k]'hlt).toNat need lo hi) (hsh : (s.size : Int) ≤ (k : Int) + need) : P.valid s.data.toList = false :=
  P.round_short (l := s.data.toList) hlt H HL (by have : s.data.toList.length = s.size := rfl
                                                  omega)
theorem vr_b1no (s : ByteArray) (k need lo hi : Nat) (hlt : k < s.size) (h1 : k + 1 < s.size) (H : At0 s k) (HL : P.Lead (s[k]'hlt).toNat need lo hi) (hb : (s[k + 1]'h1).toNat < lo ∨ hi < (s[k + 1]'h1).toNat) : P.valid s.data.toList = false := by
  refine P.valid_false_of _ (k + 2) ?_
  have e := P.round_b1 (l := s.data.toList) hlt H HL h1
  rw [if_neg (by have h : ¬ (lo ≤ (s[k + 1]'h1).toNat ∧ (s[k + 1]'h1).toNat ≤ hi) := by omega
                 exact h)] at e
  exact e
/-- Ahead of place k so many bytes are still wanted. -/
def AtR (s : ByteArray) (k r : Nat) : Prop := P.run 0 (s.data.toList.take k) = r
theorem vr_b1yes (s : ByteArray) (k need lo hi : Nat) (hlt : k < s.size) (h1 : k + 1 < s.size) (H : At0 s k) (HL : P.Lead (s[k]'hlt).toNat need lo hi) (hb : ¬ (s[k + 1]'h1).toNat < lo ∧ ¬ hi < (s[k + 1]'h1).toNat) : AtR s (k + 2) (need - 1) := by
  have e := P.round_b1 (l := s.data.toList) hlt H HL h1
  rw [if_pos (by have h : lo ≤ (s[k + 1]'h1).toNat ∧ (s[k + 1]'h1).toNat ≤ hi := by omega
                 exact h)] at e
  exact e
theorem vr_bkno (s : ByteArray) (k r : Nat) (hk : k < s.size) (h1 : 1 ≤ r) (h2 : r ≤ 2) (H : AtR s k r) (hb : ((s[k]'hk).toNat : Int) < 128 ∨ (191 : Int) < (s[k]'hk).toNat) : P.valid s.data.toList = false := by
  refine P.valid_false_of _ (k + 1) ?_
  have e := P.round_bk (l := s.data.toList) hk h1 h2 H
  rw [if_neg (by have h : ¬ (128 ≤ (s[k]'hk).toNat ∧ (s[k]'hk).toNat ≤ 191) := by omega
                 exact h)] at e
  exact e
theorem vr_bkyes (s : ByteArray) (k r : Nat) (hk : k < s.size) (h1 : 1 ≤ r) (h2 : r ≤ 2) (H : AtR s k r) (hb : 128 ≤ ((s[k]'hk).toNat : Int) ∧ ((s[k]'hk).toNat : Int) ≤ 191) : AtR s (k + 1) (r - 1) := by
  have e := P.round_bk (l := s.data.toList) hk h1 h2 H
  rw [if_pos (by have h : 128 ≤ (s[k]'hk).toNat ∧ (s[k]'hk).toNat ≤ 191 := by omega
                 exact h)] at e
  exact e

set_option maxHeartbeats 1000000 in
set_option maxRecDepth 100000 in
theorem valid_any (s : ByteArray) (w : World) (hs : s.size ≤ 16777216) :
    Calls Tryd.prog 9 #[.string s] w fun e w' => e = .returned (.bool (P.valid s.data.toList)) ∧ w' = w := by
  go_enter Tryd.func9, Tryd.ntmps9
  go_wp2
  go_loopg [3] s.size (fun g i wr => ∃ k : Nat, k ≤ s.size ∧ g + k = s.size ∧ i = .int .i64 k ∧ At0 s k ∧ wr = w)
  case atStart => exact ⟨0, Nat.zero_le _, rfl, rfl, rfl, rfl⟩
  case round =>
    obtain ⟨k, hk, hg, rfl, H0, rfl⟩ := hrel
    have Hg : Hid (gk + k = s.size) := hg
    clear hg
    by_cases hlt : k < s.size
    · by_cases hc : (s[k].toNat : Int) < 128
      · go_wp2
        go_roundg (gk - 1)
        case measure => have := Hg.out; omega
        case rel => have := Hg.out; exact ⟨k + 1, by omega, by omega, by go_num, vr_ascii s k hlt H0 hc, rfl⟩
      · go_upto_block 2 with fail
        go_cut [5, 6, 7] (fun a b c wc => ∃ need lo hi : Nat, a = .int .i64 need ∧ b = .int .u8 lo ∧ c = .int .u8 hi ∧ P.Lead s[k].toNat need lo hi ∧ wc = wr)
        case first =>
          by_cases hbad : (s[k].toNat : Int) < 194 ∨ 245 ≤ (s[k].toNat : Int)
          · have HF : Hid (P.valid s.data.toList = false) := vr_bad s k hlt H0 hc hbad
            rcases hbad with hb | hb
            all_goals
              go_wp2
              go_ret
              rw [HF.out]
              exact ⟨rfl, rfl⟩
          · have hge : 194 ≤ (s[k].toNat : Int) := by omega
            have hle : (s[k].toNat : Int) ≤ 244 := by omega
            clear hc hbad
            rcases (show (s[k].toNat : Int) ≤ 223 ∨ (224 ≤ (s[k].toNat : Int) ∧ (s[k].toNat : Int) ≤ 224) ∨ (225 ≤ (s[k].toNat : Int) ∧ (s[k].toNat : Int) ≤ 236) ∨ (237 ≤ (s[k].toNat : Int) ∧ (s[k].toNat : Int) ≤ 237) ∨ (238 ≤ (s[k].toNat : Int) ∧ (s[k].toNat : Int) ≤ 238) ∨ (239 ≤ (s[k].toNat : Int) ∧ (s[k].toNat : Int) ≤ 239) ∨ (240 ≤ (s[k].toNat : Int) ∧ (s[k].toNat : Int) ≤ 240) ∨ (241 ≤ (s[k].toNat : Int) ∧ (s[k].toNat : Int) ≤ 243) ∨ (244 ≤ (s[k].toNat : Int)) from by omega) with h1 | ⟨h1, h2⟩ | ⟨h1, h2⟩ | ⟨h1, h2⟩ | ⟨h1, h2⟩ | ⟨h1, h2⟩ | ⟨h1, h2⟩ | ⟨h1, h2⟩ | h1
            · go_wp2
              go_meet
              case rel => exact ⟨1, 128, 191, rfl, rfl, rfl, P.lead_c2 _ (by omega) (by omega), rfl⟩
            · go_wp2
              go_meet
              case rel => exact ⟨2, 160, 191, rfl, rfl, rfl, P.lead_e0 _ (by omega), rfl⟩
            · go_wp2
              go_meet
              case rel => exact ⟨2, 128, 191, rfl, rfl, rfl, P.lead_e1 _ (by omega) (by omega) (by omega), rfl⟩
            · go_wp2
              go_meet
              case rel => exact ⟨2, 128, 159, rfl, rfl, rfl, P.lead_ed _ (by omega), rfl⟩
            · go_wp2
              go_meet
              case rel => exact ⟨2, 128, 191, rfl, rfl, rfl, P.lead_e1 _ (by omega) (by omega) (by omega), rfl⟩
            · go_wp2
              go_meet
              case rel => exact ⟨2, 128, 191, rfl, rfl, rfl, P.lead_e1 _ (by omega) (by omega) (by omega), rfl⟩
            · go_wp2
              go_meet
              case rel => exact ⟨3, 144, 191, rfl, rfl, rfl, P.lead_f0 _ (by omega), rfl⟩
            · go_wp2
              go_meet
              case rel => exact ⟨3, 128, 191, rfl, rfl, rfl, P.lead_f1 _ (by omega) (by omega), rfl⟩
            · go_wp2
              go_meet
              case rel => exact ⟨3, 128, 143, rfl, rfl, rfl, P.lead_f4 _ (by omega), rfl⟩
        case rest =>
          obtain ⟨need, lo, hi, rfl, rfl, rfl, HL, rfl⟩ := hcut
          have n1 := HL.1
          have n3 := HL.2.1
          clear hc
          by_cases hsh : (s.size : Int) ≤ (k : Int) + need
          · have HF : Hid (P.valid s.data.toList = false) := vr_short s k need lo hi hlt H0 HL hsh
            go_wp2
            go_ret
            rw [HF.out]
            exact ⟨rfl, rfl⟩
          · have hk1 : k + 1 < s.size := by omega
            by_cases hb1 : s[k + 1].toNat < lo
            · have HF : Hid (P.valid s.data.toList = false) := vr_b1no s k need lo hi hlt hk1 H0 HL (Or.inl hb1)
              go_wp2
              go_ret
              rw [HF.out]
              exact ⟨rfl, rfl⟩
            · by_cases hb2 : hi < s[k + 1].toNat
              · have HF : Hid (P.valid s.data.toList = false) := vr_b1no s k need lo hi hlt hk1 H0 HL (Or.inr hb2)
                have hb1' : lo ≤ s[k + 1].toNat := by omega
                clear hb1
                go_wp2
                go_ret
                rw [HF.out]
                exact ⟨rfl, rfl⟩
              · have HR := vr_b1yes s k need lo hi hlt hk1 H0 HL ⟨hb1, hb2⟩
                have hd1 : decide (s[k + 1].toNat < lo) = false := by simp; omega
                have hd2 : decide (hi < s[k + 1].toNat) = false := by simp; omega
                have hd3 : decide ((s.size : Int) ≤ (k : Int) + need) = false := by simp; omega
                clear hb1 hb2
                go_wp2
                go_loopg [9] 3 (fun g i wr => ∃ j : Nat, g + j = 5 ∧ 2 ≤ j ∧ j ≤ need + 1 ∧ i = .int .i64 j ∧ AtR s (k + j) (need + 1 - j) ∧ wr = wc)
                case atStart => exact ⟨2, rfl, by omega, by omega, rfl, HR, rfl⟩
                case round =>
                  obtain ⟨j, hg2, hj1, hj2, rfl, HRj, rfl⟩ := hrel
                  have Hg2 : Hid (gk + j = 5) := hg2
                  clear hg2
                  by_cases hjn : (j : Int) ≤ need
                  · have hkj : k + j < s.size := by omega
                    by_cases hbb : (s[k + j].toNat : Int) < 128 ∨ 191 < (s[k + j].toNat : Int)
                    · have HF : Hid (P.valid s.data.toList = false) := vr_bkno s (k + j) (need + 1 - j) hkj (by omega) (by omega) HRj hbb
                      rcases hbb with hbb | hbb
                      all_goals
                        go_wp2
                        go_ret
                        rw [HF.out]
                        exact ⟨rfl, rfl⟩
                    · have hbb' : 128 ≤ (s[k + j].toNat : Int) ∧ (s[k + j].toNat : Int) ≤ 191 := by omega
                      have HN : AtR s (k + j + 1) (need + 1 - j - 1) := vr_bkyes s (k + j) (need + 1 - j) hkj (by omega) (by omega) HRj hbb'
                      obtain ⟨hbb1, hbb2⟩ := hbb'
                      clear hbb
                      go_wp2
                      go_roundg (gk - 1)
                      case measure => have := Hg2.out; omega
                      case rel => have := Hg2.out; exact ⟨j + 1, by omega, by omega, by omega, by go_num, HN, rfl⟩
                  · have hjn' : j = need + 1 := by omega
                    have HN : At0 s (k + (need + 1)) := by
                      rw [hjn'] at HRj
                      simpa [AtR, At0] using HRj
                    clear hjn'
                    go_wp2
                    go_roundg (s.size - (k + (need + 1)))
                    case measure => have := Hg.out; omega
                    case rel => have := Hg.out; exact ⟨k + (need + 1), by omega, by omega, by go_num, HN, rfl⟩
    · have HF : Hid (P.valid s.data.toList = true) := vr_done s k hk hlt H0
      go_wp2
      go_ret
      rw [HF.out]
      exact ⟨rfl, rfl⟩
end Go.Proofs.Qxb6601290aDoor
