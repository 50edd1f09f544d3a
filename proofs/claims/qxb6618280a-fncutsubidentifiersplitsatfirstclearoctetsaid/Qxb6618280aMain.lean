/-
  The walk of FnCutSubidentifierSplitsAtFirstClearOctet (function 3).
-/
import Derived.Test.Qxb6618280aCut
import Derived.Test.Qxb6618280aPlain
namespace Go.Proofs.Qxb6618280a
open Go.RowKit
set_option linter.unusedVariables false

/-- sub and rest are s, cut behind its n-th octet. -/
def Parts (s : ByteArray) (n : Nat) (sub rest : ByteArray) : Prop := sub = s.extract 0 (n + 1) ∧ rest = s.extract (n + 1) s.size

set_option maxHeartbeats 400000 in
theorem zz_any (s : ByteArray) (n : Nat) (w : World) (hs : s.size ≤ 2000000) (hc : Clear s n) :
    Calls Try.prog 5 #[.string s] w fun e w' => (∃ sub rest, e = .returned (.tuple #[.string sub, .string rest]) ∧ Parts s n sub rest) ∧ ∃ m, w' = w.drewN m := by
  have HC := show Hid _ from hc
  clear hc
  go_enter Try.func5, Try.ntmps5
  go_wp2_with (first | (go_at_call 6; refine (cut_any s n _ hs HC.out).mono ?_) | fail)
  rintro e w' ⟨rfl, m, rfl⟩
  go_wp2
  go_ret2
  exact ⟨⟨_, _, rfl, rfl, rfl⟩, m, rfl⟩

theorem Clear.append {s : ByteArray} {n : Nat} (h : Clear s n) (t : ByteArray) : Clear (s ++ t) n := by
  obtain ⟨hn, hl, hh⟩ := h
  refine ⟨by rw [ByteArray.size_append]; omega, ?_, fun j hj => ?_⟩
  · rw [ByteArray.getElem_append_left hn]; exact hl
  · rw [ByteArray.getElem_append_left (by omega)]; exact hh j hj

set_option maxHeartbeats 400000 in
/-- One of the two is longer than the law's own bound: true at once. -/
theorem main_big (s t : ByteArray) (w : World) (hs : s.size ≤ maxLen) (ht : t.size ≤ maxLen) (h : 524288 < s.size ∨ 524288 < t.size) :
    Calls Try.prog 3 #[.string s, .string t] w fun e w' => e = .returned (.bool true) ∧ Grown w w' := by
  by_cases h1 : 524288 < s.size
  · clear h
    go_enter Try.func3, Try.ntmps3
    go_wp2_with (first | (go_at_call 4; refine (bytes_any s t _ hs ht).mono ?_; rintro e w' ⟨⟨r, rfl⟩, rfl⟩) | fail)
    all_goals (go_ret; exact ⟨rfl, Grown.refl _⟩)
  · have h2 : 524288 < t.size := by omega
    clear h
    go_enter Try.func3, Try.ntmps3
    go_wp2_with (first | (go_at_call 4; refine (bytes_any s t _ hs ht).mono ?_; rintro e w' ⟨⟨r, rfl⟩, rfl⟩) | fail)
    all_goals (go_ret; exact ⟨rfl, Grown.refl _⟩)

theorem grown_drewN {W w : World} (h : Grown W w) (n : Nat) : Grown W (w.drewN n) := h

/-- All that the walk asks of the two parts. -/
structure Facts (s : ByteArray) (n : Nat) (sub rest : ByteArray) : Prop where
  size : sub.size = n + 1
  rsize : rest.size = s.size - (n + 1)
  subEq : (sub.toList == (s.extract 0 sub.size).toList) = true
  restEq : (rest.toList == (s.extract sub.size s.size).toList) = true
  low : ∀ h : n < sub.size, sub[n].toNat < 128
  high : ∀ (j : Nat) (hj : j < n) (h : j < sub.size), 128 ≤ sub[j].toNat

theorem facts_of {s : ByteArray} {n : Nat} {sub rest : ByteArray} (hc : Clear s n) (h : Parts s n sub rest) : Facts s n sub rest := by
  obtain ⟨rfl, rfl⟩ := h
  obtain ⟨hn, hl, hh⟩ := hc
  have e := size_sub hn
  refine ⟨e, size_rest, by rw [e]; simp, by rw [e]; simp, fun h => ?_, fun j hj h => ?_⟩
  · rw [get_sub hn (Nat.le_refl _)]; exact hl
  · rw [get_sub hn (by omega)]; exact hh j hj

set_option maxHeartbeats 1000000 in
set_option maxRecDepth 100000 in
theorem main_any (s t : ByteArray) (w : World) (hs : s.size ≤ 524288) (ht : t.size ≤ 524288) :
    Calls Try.prog 3 #[.string s, .string t] w fun e w' => e = .returned (.bool true) ∧ Grown w w' := by
  go_enter Try.func3, Try.ntmps3
  go_wp2_with (first | (go_at_call 4; refine (bytes_any s t _ (by unfold maxLen; omega) (by unfold maxLen; omega)).mono ?_; rintro e w' ⟨⟨r, rfl⟩, rfl⟩) | fail)
  · go_ret
    exact ⟨rfl, Grown.refl _⟩
  · go_loop [5, 6] (fun f i => ∃ k : Nat, k ≤ s.size ∧ f = .bool false ∧ i = .int .i64 k ∧ Hid (∀ (j : Nat) (hj : j < k) (h2 : j < s.size), 128 ≤ s[j].toNat)) (fun _ i => s.size - (intOf i).toNat)
    case atStart => exact ⟨0, Nat.zero_le _, rfl, rfl, fun j hj => by omega⟩
    case round =>
      obtain ⟨k, hk, rfl, rfl, HH⟩ := hrel
      by_cases hlt : k < s.size
      · by_cases hc : s[k].toNat < 128
        · have HC : Hid (Clear s k) := ⟨hlt, hc, fun j hj => HH.out j hj (by omega)⟩
          go_wp2_with fail
          refine (zz_any s k _ (by omega) HC.out).mono ?_
          rintro e w1 ⟨⟨sub, rest, rfl, hp⟩, m1, rfl⟩
          have hf := facts_of HC.out hp
          have hsub : sub.size = k + 1 := hf.size
          have hrest : rest.size = s.size - (k + 1) := hf.rsize
          have q1 : ((sub.size : Int) == 0) = false := by simpa using (by omega : (sub.size : Int) ≠ 0)
          have q2 : ((sub.size : Int) + (rest.size : Int) != (s.size : Int)) = false := by
            have : (sub.size : Int) + (rest.size : Int) = s.size := by omega
            simpa using this
          have q3 : sub.size ≤ s.size := by omega
          have q4 : rest.size ≤ 524288 := by omega
          have q5 := hf.subEq
          have q6 := hf.restEq
          have q7 : (sub.size : Int) - 1 = (k : Int) := by omega
          have q8 : k < sub.size := by omega
          have q9 := hf.low q8
          have HF := show Hid _ from hf
          have HP := show Hid _ from hp
          clear hsub hrest hf hp hc
          have HH2 : Hid (∀ (j : Nat) (hj : j < k) (h : j < sub.size), 128 ≤ sub[j].toNat) := HF.out.high
          go_wp2_with fail
          clear HH
          go_loop [10] (fun i => ∃ q : Nat, q ≤ k ∧ i = .int .i64 q) (fun i => k - (intOf i).toNat)
          case atStart => exact ⟨0, Nat.zero_le _, rfl⟩
          case round =>
            obtain ⟨q, hq, rfl⟩ := hrel
            by_cases hqk : q < k
            · have hqs : q < sub.size := by omega
              have hhi := HH2.out q hqk hqs
              go_wp2_with fail
              go_round
              case rel => exact ⟨q + 1, by omega, by go_num⟩
              case measure => simp [intOf]; omega
            · have hst : (s ++ t).size ≤ 2000000 := by rw [ByteArray.size_append]; omega
              have HST := show Hid _ from hst
              clear hst
              go_wp2_with fail
              refine (zz_any (s ++ t) k _ HST.out (HC.out.append t)).mono ?_
              rintro e w2 ⟨⟨sub2, rest2, rfl, hp2⟩, m2, rfl⟩
              have r1 : (sub2.toList == sub.toList) = true := by
                obtain ⟨e1, _⟩ := hp2
                obtain ⟨e2, _⟩ := HP.out
                rw [e1, e2, sub_append hlt]; simp
              have r2 : (rest2.toList == (rest ++ t).toList) = true := by
                obtain ⟨_, e1⟩ := hp2
                obtain ⟨_, e2⟩ := HP.out
                rw [e1, e2, rest_append hlt]; simp
              clear hp2 HST
              go_wp2
              go_ret
              exact ⟨rfl, Grown.refl w⟩
        · go_wp2_with fail
          go_round
          case rel =>
            refine ⟨k + 1, by omega, rfl, by go_num, fun j hj h2 => ?_⟩
            by_cases e : j = k
            · subst e; omega
            · exact HH.out j (by omega) h2
          case measure => simp [intOf]; omega
      · go_wp2
        go_ret
        exact ⟨rfl, Grown.refl _⟩
end Go.Proofs.Qxb6618280a
