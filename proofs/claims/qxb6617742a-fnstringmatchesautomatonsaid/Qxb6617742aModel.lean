/-
  The walks of zzShortEscape (16), zzHexValue (17), zzStep (13), zzModelString (8) and zzSameBytes (9).
-/
import Derived.Test.Qxb6617742aAids
namespace Go.Proofs.Qxb6617742a
open Go.RowKit
set_option linter.unusedVariables false

set_option maxHeartbeats 400000 in
theorem short_any (c : Int) (w : World) (h0 : 0 ≤ c) (h1 : c ≤ 255) :
    Calls Try.prog 16 #[.int .u8 c] w fun e w' => e = .returned (.bool (isShort c)) ∧ w = w' := by
  by_cases hs : isShort c = true
  · rw [hs]
    have hs8 : c = 34 ∨ c = 92 ∨ c = 47 ∨ c = 98 ∨ c = 102 ∨ c = 110 ∨ c = 114 ∨ c = 116 := by simpa [isShort] using hs
    have HS := show Hid _ from hs8
    clear hs hs8
    go_enter Try.func16, Try.ntmps16
    go_wp2
    all_goals first
      | (exact (no_short HS.out (by assumption) (by assumption) (by assumption) (by assumption) (by assumption) (by assumption) (by assumption) (by assumption)).elim)
      | (go_ret; exact ⟨rfl, rfl⟩)
  · have hsf : isShort c = false := by simpa using hs
    rw [hsf]
    have hs8 : c ≠ 34 ∧ c ≠ 92 ∧ c ≠ 47 ∧ c ≠ 98 ∧ c ≠ 102 ∧ c ≠ 110 ∧ c ≠ 114 ∧ c ≠ 116 := by simpa [isShort] using hsf
    have f1 : (c == 34) = false := by simpa using hs8.1
    have f2 : (c == 92) = false := by simpa using hs8.2.1
    have f3 : (c == 47) = false := by simpa using hs8.2.2.1
    have f4 : (c == 98) = false := by simpa using hs8.2.2.2.1
    have f5 : (c == 102) = false := by simpa using hs8.2.2.2.2.1
    have f6 : (c == 110) = false := by simpa using hs8.2.2.2.2.2.1
    have f7 : (c == 114) = false := by simpa using hs8.2.2.2.2.2.2.1
    have f8 : (c == 116) = false := by simpa using hs8.2.2.2.2.2.2.2
    clear hs hsf hs8
    go_enter Try.func16, Try.ntmps16
    go_wp2
    go_ret
    exact ⟨rfl, rfl⟩

set_option maxHeartbeats 400000 in
/-- What zzHexValue answers: below zero just where the byte is no digit. -/
theorem hexv_any (c : Int) (w : World) (h0 : 0 ≤ c) (h1 : c ≤ 255) :
    Calls Try.prog 17 #[.int .u8 c] w fun e w' => (∃ n : Int, e = .returned (.int .i64 n) ∧ ((isHex c = true ∧ 0 ≤ n) ∨ (isHex c = false ∧ n = -1))) ∧ w = w' := by
  go_enter Try.func17, Try.ntmps17
  go_wp2
  all_goals go_ret
  all_goals first
    | exact ⟨⟨_, rfl, .inl ⟨by simp [isHex]; omega, by omega⟩⟩, rfl⟩
    | exact ⟨⟨_, rfl, .inr ⟨by simp [isHex]; omega, rfl⟩⟩, rfl⟩

theorem ret_int {k : IntKind} {a b : Int} (h : a = b) : Ending.returned (.int k a) = .returned (.int k b) := by rw [h]

theorem stp0_34 {c : Int} (h : (c == 34) = true) : (-2 : Int) = stp 0 c := by
  have e : c = 34 := by simpa using h
  subst e
  rfl
theorem stp0_low {c : Int} (h : (c == 34) = false) (k : c < 32) : (-1 : Int) = stp 0 c := (stp_low (by simpa using h) k).symm
theorem stp0_92 {c : Int} (h : (c == 92) = true) : (1 : Int) = stp 0 c := by
  have e : c = 92 := by simpa using h
  subst e
  rfl
theorem stp0_on {c : Int} (h : (c == 34) = false) (k : 32 ≤ c) (e : (c == 92) = false) : (0 : Int) = stp 0 c := (stp_plain (by simpa using h) (by omega) (by simpa using e)).symm
theorem stp1_short {c : Int} (h : isShort c = true) : (0 : Int) = stp 1 c := (stp_short h).symm
theorem stp1_u {c : Int} (h : (c == 117) = true) : (14 : Int) = stp 1 c := by
  have e : c = 117 := by simpa using h
  subst e
  rfl
theorem stp1_bad {c : Int} (h : isShort c = false) (k : (c == 117) = false) : (-1 : Int) = stp 1 c := (stp_bad h (by simpa using k)).symm
theorem stpx_no {s c : Int} (h0 : s ≠ 0) (h1 : s ≠ 1) (h : isHex c = false) : (-1 : Int) = stp s c := by simp [stp, h0, h1, h]
theorem stpx_11 {c : Int} (h : isHex c = true) : (0 : Int) = stp 11 c := by simp [stp, h]
theorem stpx_on {s c : Int} (h0 : s ≠ 0) (h1 : s ≠ 1) (h : isHex c = true) (k : s ≠ 11) : s - 1 = stp s c := by simp [stp, h0, h1, h, k]

set_option maxHeartbeats 400000 in
theorem step_any (s c : Int) (w : World) (h0 : 0 ≤ c) (h1 : c ≤ 255) (s0 : 0 ≤ s) (s1 : s ≤ 14) :
    Calls Try.prog 13 #[.int .i64 s, .int .u8 c] w fun e w' => e = .returned (.int .i64 (stp s c)) ∧ w = w' := by
  by_cases e0 : s = 0
  · subst e0
    go_enter Try.func13, Try.ntmps13
    go_wp2_with fail
    · go_ret
      exact ⟨ret_int (stp0_34 (by assumption)), rfl⟩
    · go_ret
      exact ⟨ret_int (stp0_low (by assumption) (by assumption)), rfl⟩
    · go_ret
      exact ⟨ret_int (stp0_92 (by assumption)), rfl⟩
    · go_ret
      exact ⟨ret_int (stp0_on (by assumption) (by assumption) (by assumption)), rfl⟩
  · by_cases e1 : s = 1
    · subst e1
      cases hs : isShort c
      · go_enter Try.func13, Try.ntmps13
        go_wp2_with (first | (go_at_call 16; refine (short_any _ _ h0 h1).mono ?_; rintro e w' ⟨rfl, rfl⟩) | fail)
        · go_ret
          exact ⟨ret_int (stp1_u (by assumption)), rfl⟩
        · go_ret
          exact ⟨ret_int (stp1_bad (by assumption) (by assumption)), rfl⟩
      · go_enter Try.func13, Try.ntmps13
        go_wp2_with (first | (go_at_call 16; refine (short_any _ _ h0 h1).mono ?_; rintro e w' ⟨rfl, rfl⟩) | fail)
        go_ret
        exact ⟨ret_int (stp1_short (by assumption)), rfl⟩
    · have f0 : (s == 0) = false := by simpa using e0
      have f1 : (s == 1) = false := by simpa using e1
      have E0 : Hid (s ≠ 0) := e0
      have E1 : Hid (s ≠ 1) := e1
      clear e0 e1
      go_enter Try.func13, Try.ntmps13
      go_wp2_with fail
      refine (hexv_any _ _ h0 h1).mono ?_
      rintro e w' ⟨⟨n, rfl, hn⟩, rfl⟩
      rcases hn with ⟨hx, hn⟩ | ⟨hx, rfl⟩
      · by_cases e11 : s = 11
        · subst e11
          go_wp2
          go_ret
          exact ⟨ret_int (stpx_11 hx), rfl⟩
        · have f11 : (s == 11) = false := by simpa using e11
          have E11 : Hid (s ≠ 11) := e11
          clear e11
          go_wp2
          go_ret
          exact ⟨ret_int (stpx_on E0.out E1.out hx E11.out), rfl⟩
      · go_wp2
        go_ret
        exact ⟨ret_int (stpx_no E0.out E1.out hx), rfl⟩

theorem stp_range {s c : Int} (s0 : 0 ≤ s) (s1 : s ≤ 14) (h2 : stp s c ≠ -2) (h1 : stp s c ≠ -1) : 0 ≤ stp s c ∧ stp s c ≤ 14 := by
  have : stp s c = -2 ∨ stp s c = -1 ∨ (0 ≤ stp s c ∧ stp s c ≤ 14) := by
    unfold stp
    repeat' split
    all_goals omega
  rcases this with h | h | h
  · exact absurd h h2
  · exact absurd h h1
  · exact h

set_option maxHeartbeats 400000 in
theorem model_any (g cap : Nat) (t : List Int) (i : Nat) (R : Bool × Nat) (w : World) (ht : Text w g t) (hn : t.length ≤ 2000000) (hi : i < t.length) (hR : aut t 0 (i + 1) = R) :
    Calls Try.prog 8 #[.slice (some ⟨g, 0, none⟩) t.length cap, .int .i64 i] w fun e w' => e = .returned (.tuple #[.bool R.1, .int .i64 R.2]) ∧ w = w' := by
  have HR : Hid (aut t 0 (i + 1) = R) := hR
  clear hR
  obtain ⟨hg, hc, hb⟩ := ht
  go_enter Try.func8, Try.ntmps8
  go_wp2
  go_loop [6, 7, 8] (fun st pv _ => ∃ (s : Int) (p : Nat), 0 ≤ s ∧ s ≤ 14 ∧ i < p ∧ p ≤ t.length ∧ st = .int .i64 s ∧ pv = .int .i64 p ∧ Hid (aut t s p = R)) (fun _ pv _ => t.length - (intOf pv).toNat)
  case atStart => exact ⟨0, i + 1, by omega, by omega, by omega, by omega, rfl, rfl, HR⟩
  case round =>
    obtain ⟨s, p, s0, s1, hip, hp, rfl, rfl, HP⟩ := hrel
    clear HR
    by_cases hlt : p < t.length
    · obtain ⟨c, hcc⟩ : ∃ c, c = t.getD p 0 := ⟨_, rfl⟩
      have hcx : w.cell? ⟨g, p, none⟩ = some (.int .u8 c) := by rw [hcc]; exact hc p hlt
      have hb0 := hb p
      rw [← hcc] at hb0
      have HCC : Hid (c = t.getD p 0) := hcc
      clear hcc hc hb
      go_wp2_with fail
      refine (step_any s c _ hb0.1 hb0.2 s0 s1).mono ?_
      rintro e w' ⟨rfl, rfl⟩
      obtain ⟨n, hnn⟩ : ∃ n, stp s c = n := ⟨_, rfl⟩
      rw [hnn]
      have HN : Hid (stp s c = n) := hnn
      clear hnn
      go_wp2
      · have hq : (n == -2) = true := by assumption
        have hq' : stp s c = -2 := by rw [HN.out]; simpa using hq
        have HF : Hid (R = (true, p + 1)) := by
          show R = _
          rw [← HP.out, aut_yes hlt (by rw [← HCC.out]; exact hq')]
        go_ret2
        rw [HF.out]
        exact ⟨rfl, rfl⟩
      · have hq : (n == -1) = true := by assumption
        have hq' : stp s c = -1 := by rw [HN.out]; simpa using hq
        have HF : Hid (R = (false, p)) := by
          show R = _
          rw [← HP.out, aut_no hlt (by rw [← HCC.out]; exact hq')]
        go_ret2
        rw [HF.out]
        exact ⟨rfl, rfl⟩
      · have q2 : (n == -2) = false := by assumption
        have q1 : (n == -1) = false := by assumption
        have hn2 : n ≠ -2 := by simpa using q2
        have hn1 : n ≠ -1 := by simpa using q1
        have hr := stp_range s0 s1 (by rw [HN.out]; exact hn2) (by rw [HN.out]; exact hn1)
        rw [HN.out] at hr
        have HF : Hid (aut t n (p + 1) = R) := by
          show _ = R
          rw [← HP.out, aut_on (n := n) hlt (by rw [← HCC.out]; exact HN.out) hn2 hn1]
        go_round
        case rel => exact ⟨n, p + 1, hr.1, hr.2, by omega, by omega, rfl, by go_num, HF⟩
        case measure => simp [intOf]; omega
    · have HF : Hid (R = (false, p)) := by
        show R = _
        rw [← HP.out, aut_end (by omega)]
      obtain rfl : p = t.length := by omega
      go_wp2
      go_ret2
      rw [HF.out]
      exact ⟨rfl, rfl⟩

set_option maxHeartbeats 400000 in
theorem same_any (g1 g2 c1 c2 : Nat) (t : List Int) (w : World) (h1 : Text w g1 t) (h2 : Text w g2 t) (hn : t.length ≤ 2000000) :
    Calls Try.prog 9 #[.slice (some ⟨g1, 0, none⟩) t.length c1, .slice (some ⟨g2, 0, none⟩) t.length c2] w fun e w' => e = .returned (.bool true) ∧ ∃ m, w' = w.drewN m := by
  go_enter Try.func9, Try.ntmps9
  go_wp2
  go_loopw [5] (fun i wr => ∃ (k m : Nat), k ≤ t.length ∧ i = .int .i64 k ∧ wr = w.drewN m) (fun i _ => t.length - (intOf i).toNat)
  case atStart => exact ⟨0, 0, Nat.zero_le _, rfl, rfl⟩
  case round =>
    obtain ⟨k, m, hk, rfl, rfl⟩ := hrel
    by_cases hlt : k < t.length
    · obtain ⟨c, hcc⟩ : ∃ c, c = t.getD k 0 := ⟨_, rfl⟩
      have x1 : w.cell? ⟨g1, k, none⟩ = some (.int .u8 c) := by rw [hcc]; exact h1.2.1 k hlt
      have x2 : w.cell? ⟨g2, k, none⟩ = some (.int .u8 c) := by rw [hcc]; exact h2.2.1 k hlt
      have hki : (k : Int) < (t.length : Int) := by omega
      clear hcc
      go_wp2
      go_quiet (fail)
      go_wp2
      go_roundw
      case rel => exact ⟨k + 1, _, by omega, by go_num, rfl⟩
      case measure => simp [intOf]; omega
    · go_wp2
      go_ret
      exact ⟨rfl, _, rfl⟩
end Go.Proofs.Qxb6617742a
