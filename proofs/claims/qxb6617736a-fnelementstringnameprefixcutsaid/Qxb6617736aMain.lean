/-
  The walk of FnElementStringNamePrefixCut (function 3).
-/
import Derived.Test.Qxb6617736aStr
namespace Go.Proofs.Qxb6617736a
open Go.RowKit
set_option linter.unusedVariables false

theorem c1_size : (ByteArray.mk #[32, 105, 110, 32, 110, 111, 32, 110, 97, 109, 101, 115, 112, 97, 99, 101]).size = 16 := rfl
theorem c2_size : (ByteArray.mk #[32, 105, 110, 32, 110, 97, 109, 101, 115, 112, 97, 99, 101, 32]).size = 14 := rfl

theorem grown_drewN {W w : World} (h : Grown W w) (n : Nat) : Grown W (w.drewN n) := h

theorem size_of_msg {sp nm r : ByteArray} (h : Msg sp nm r) : nm.size ≤ r.size ∧ r.size ≤ nm.size + 16 + sp.size := by
  rcases h with ⟨_, rfl⟩ | ⟨_, _, rfl⟩ | ⟨_, _, rfl⟩
  · omega
  · rw [ByteArray.size_append, c1_size]; omega
  · rw [ByteArray.size_append, ByteArray.size_append, c2_size]; omega

theorem ns_not {sp : ByteArray} (h : isNs sp) (k : notNs sp) : False := by unfold isNs at h; unfold notNs at k; rw [h] at k; cases k

theorem empty_not {sp : ByteArray} (h : sp.toList.isEmpty = true) (k : sp.toList.isEmpty = false) : False := by rw [h] at k; cases k

/-- The message for a+b is a followed by the message for b. -/
theorem msg_cut {sp a b r s : ByteArray} (h : Msg sp (a ++ b) r) (k : Msg sp b s) : r = a ++ s := by
  rcases h with ⟨h1, rfl⟩ | ⟨h1, h2, rfl⟩ | ⟨h1, h2, rfl⟩ <;> rcases k with ⟨k1, rfl⟩ | ⟨k1, k2, rfl⟩ | ⟨k1, k2, rfl⟩
  · rfl
  · exact (ns_not h1 k1).elim
  · exact (ns_not h1 k1).elim
  · exact (ns_not k1 h1).elim
  · exact ByteArray.append_assoc
  · exact (empty_not h2 k2).elim
  · exact (ns_not k1 h1).elim
  · exact (empty_not k2 h2).elim
  · rw [ByteArray.append_assoc, ByteArray.append_assoc, ByteArray.append_assoc]

theorem msg_pre {sp b s : ByteArray} (k : Msg sp b s) : ∀ (i : Nat) (h1 : i < b.size) (h2 : i < s.size), s[i] = b[i] := by
  intro i h1 h2
  rcases k with ⟨k1, rfl⟩ | ⟨k1, k2, rfl⟩ | ⟨k1, k2, rfl⟩
  · rfl
  · exact ByteArray.getElem_append_left h1
  · rw [ByteArray.getElem_append_left (by rw [ByteArray.size_append]; omega)]
    exact ByteArray.getElem_append_left h1

theorem msg_suf {sp b s : ByteArray} (k : Msg sp b s) (hn : notNs sp) (he : 0 < sp.size) : sp.size ≤ s.size ∧ ∀ (i : Nat) (h1 : i < sp.size) (h2 : s.size - sp.size + i < s.size), s[s.size - sp.size + i] = sp[i] := by
  rcases k with ⟨k1, rfl⟩ | ⟨k1, k2, rfl⟩ | ⟨k1, k2, rfl⟩
  · exact (ns_not k1 hn).elim
  · exfalso
    rw [ByteArray.toList_eq] at k2
    simp at k2
    have : sp.size = 0 := by show sp.data.size = 0; rw [k2]; rfl
    omega
  · refine ⟨by rw [ByteArray.size_append]; omega, fun i h1 h2 => ?_⟩
    have e := ByteArray.size_append (a := b ++ ⟨#[32, 105, 110, 32, 110, 97, 109, 101, 115, 112, 97, 99, 101, 32]⟩) (b := sp)
    rw [ByteArray.getElem_append_right (by omega)]
    congr 1
    omega

theorem msg_longer {sp b s : ByteArray} (k : Msg sp b s) (hn : notNs sp) : b.size < s.size := by
  rcases k with ⟨k1, rfl⟩ | ⟨k1, k2, rfl⟩ | ⟨k1, k2, rfl⟩
  · exact (ns_not k1 hn).elim
  · rw [ByteArray.size_append, c1_size]; omega
  · rw [ByteArray.size_append, ByteArray.size_append, c2_size]; omega

theorem msg_ns {sp b s : ByteArray} (k : Msg sp b s) (hn : isNs sp) : s = b := by
  rcases k with ⟨k1, rfl⟩ | ⟨k1, k2, rfl⟩ | ⟨k1, k2, rfl⟩
  · rfl
  · exact (ns_not hn k1).elim
  · exact (ns_not hn k1).elim


set_option maxHeartbeats 400000 in
/-- One of the three is longer than 65536 bytes: true at once. -/
theorem main_big (a0 a1 a2 : ByteArray) (w0 : a0.size ≤ maxLen) (w1 : a1.size ≤ maxLen) (w2 : a2.size ≤ maxLen) (w : World) (h : 65536 < a0.size ∨ 65536 < a1.size ∨ 65536 < a2.size) :
    Calls Try.prog 3 #[.string a0, .string a1, .string a2] w fun e w' => e = .returned (.bool true) ∧ Grown w w' := by
  by_cases h0 : 65536 < a0.size
  · clear h
    go_enter Try.func3, Try.ntmps3
    go_wp2_with (first | (go_at_call 4; refine (bytes_any a0 a1 a2 _ w0 w1 w2).mono ?_; rintro e w' ⟨⟨r, rfl⟩, rfl⟩) | fail)
    all_goals (go_ret; exact ⟨rfl, Grown.refl _⟩)
  · by_cases h1 : 65536 < a1.size
    · clear h
      go_enter Try.func3, Try.ntmps3
      go_wp2_with (first | (go_at_call 4; refine (bytes_any a0 a1 a2 _ w0 w1 w2).mono ?_; rintro e w' ⟨⟨r, rfl⟩, rfl⟩) | fail)
      all_goals (go_ret; exact ⟨rfl, Grown.refl _⟩)
    · have h2 : 65536 < a2.size := by omega
      clear h
      go_enter Try.func3, Try.ntmps3
      go_wp2_with (first | (go_at_call 4; refine (bytes_any a0 a1 a2 _ w0 w1 w2).mono ?_; rintro e w' ⟨⟨r, rfl⟩, rfl⟩) | fail)
      all_goals (go_ret; exact ⟨rfl, Grown.refl _⟩)

set_option maxHeartbeats 800000 in
theorem main_any (sp a b : ByteArray) (w : World) (h0 : sp.size ≤ 65536) (h1 : a.size ≤ 65536) (h2 : b.size ≤ 65536) :
    Calls Try.prog 3 #[.string sp, .string a, .string b] w fun e w' => e = .returned (.bool true) ∧ Grown w w' := by
  have hab : (a ++ b).size ≤ 200000 := by rw [ByteArray.size_append]; omega
  go_enter Try.func3, Try.ntmps3
  go_wp2_with (first | (go_at_call 4; refine (bytes_any sp a b _ (by unfold maxLen; omega) (by unfold maxLen; omega) (by unfold maxLen; omega)).mono ?_; rintro e w' ⟨⟨r, rfl⟩, rfl⟩) | fail)
  · go_ret
    exact ⟨rfl, Grown.refl _⟩
  · refine (zz_any sp (a ++ b) _ h0 hab).mono ?_
    rintro e w1 ⟨⟨whole, rfl, hm1⟩, c1, n1, rfl⟩
    have HM1 := show Hid _ from hm1
    clear hm1
    go_wp2_with fail
    refine (zz_any sp b _ h0 (by omega)).mono ?_
    rintro e w2 ⟨⟨part, rfl, hm2⟩, c2, n2, rfl⟩
    have hs := size_of_msg hm2
    have hcut : (whole.toList == (a ++ part).toList) = true := by rw [msg_cut HM1.out hm2]; simp
    have HM2 := show Hid _ from hm2
    have HG : Hid (Grown w (((w.alloc (.cells c1 30)).drewN n1).alloc (.cells c2 30))) := Grown.alloc (grown_drewN (Grown.alloc (Grown.refl _) _ _) _) _ _
    clear hm2 HM1 hab
    go_wp2_with fail
    refine (pre_any part b _ (by omega) hs.1 (fun i h => msg_pre HM2.out i h (by omega))).mono ?_
    rintro e w3 ⟨rfl, n3, rfl⟩
    cases hq : (sp.toList == [117, 114, 110, 58, 111, 97, 115, 105, 115, 58, 110, 97, 109, 101, 115, 58, 116, 99, 58, 120, 97, 99, 109, 108, 58, 51, 46, 48, 58, 99, 111, 114, 101, 58, 115, 99, 104, 101, 109, 97, 58, 119, 100, 45, 49, 55])
    · have hl := msg_longer HM2.out hq
      by_cases he : 0 < sp.size
      · have hsuf := msg_suf HM2.out hq he
        have HS := show Hid _ from hsuf
        clear hsuf
        go_wp2_with fail
        refine (suf_any part sp _ (by omega) HS.out.1 (fun i h => HS.out.2 i h (by have := HS.out.1; omega))).mono ?_
        rintro e w4 ⟨rfl, n4, rfl⟩
        go_wp2
        go_ret
        exact ⟨rfl, HG.out⟩
      · go_wp2_with fail
        go_ret
        exact ⟨rfl, HG.out⟩
    · have hb : (part.toList == b.toList) = true := by rw [msg_ns HM2.out hq]; simp
      go_wp2_with fail
      go_ret
      exact ⟨rfl, HG.out⟩
end Go.Proofs.Qxb6617736a
