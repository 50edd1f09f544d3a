/-
  The walk of symFirstIndex (function 4).
-/
import Derived.Test.Qxb6617708aRows
import Derived.Test.Qxb6617708aPlain
import Derived.WalkKit
import Derived.WalkSpells
import Derived.WalkLawsBesides
namespace Go.Proofs.Qxb6617708a
open Go.RowKit Go.Maps

/-- What symFirstIndex answers: -1 where the name is not there, else a place of it. -/
def Want (L : List ByteArray) (s : ByteArray) (n : Int) : Prop := (n = -1 ∧ s ∉ L) ∨ ∃ k : Nat, n = (k : Int) ∧ k < L.length ∧ L.getD k ByteArray.empty = s

theorem not_mem_of {L : List ByteArray} {s : ByteArray} (h : ∀ j, j < L.length → L.getD j ByteArray.empty ≠ s) : s ∉ L := by
  intro hm
  obtain ⟨i, hi, e⟩ := List.getElem_of_mem hm
  exact h i hi (by simpa [List.getD, hi] using e)

theorem beq_true {a b : ByteArray} (h : (a.toList == b.toList) = true) : a = b := toList_eq_iff.1 (by simpa using h)
theorem beq_false {a b : ByteArray} (h : (a.toList == b.toList) = false) : a ≠ b := fun e => by subst e; simp at h

set_option maxHeartbeats 400000 in
theorem sym_any (g cap : Nat) (L : List ByteArray) (s : ByteArray) (w : World) (hL : L.length ≤ 10000)
    (hc : ∀ j, j < L.length → w.cell? ⟨g, j, none⟩ = some (.string (L.getD j ByteArray.empty))) :
    Calls Try.prog 4 #[.slice (some ⟨g, 0, none⟩) L.length cap, .string s] w fun e w' => (∃ n : Int, e = .returned (.int .i64 n) ∧ Want L s n) ∧ w = w' := by
  go_enter Try.func4, Try.ntmps4
  go_wp2
  go_loop [5] (fun i => ∃ k : Nat, k ≤ L.length ∧ i = .int .i64 k ∧ ∀ j, j < k → L.getD j ByteArray.empty ≠ s) (fun i => L.length - (intOf i).toNat)
  case atStart => exact ⟨0, Nat.zero_le _, rfl, fun j hj => by omega⟩
  case round =>
    obtain ⟨k, hk, rfl, hno⟩ := hrel
    have HN : Hid (∀ j, j < k → L.getD j ByteArray.empty ≠ s) := hno
    clear hno
    by_cases hlt : k < L.length
    · have hcx : w.cell? ⟨g, k, none⟩ = some (.string L[k]) := by rw [hc k hlt]; simp [List.getD, hlt]
      have eL : L.getD k ByteArray.empty = L[k] := by simp [List.getD, hlt]
      have HE : Hid (L.getD k ByteArray.empty = L[k]) := eL
      clear eL hc
      go_wp2
      · have hq : (L[k].toList == s.toList) = true := by assumption
        go_ret
        exact ⟨⟨k, rfl, .inr ⟨k, rfl, hlt, HE.out.trans (beq_true hq)⟩⟩, rfl⟩
      · have hq : (L[k].toList == s.toList) = false := by assumption
        go_round
        case rel =>
          refine ⟨k + 1, by omega, by go_num, fun j hj => ?_⟩
          by_cases e : j = k
          · subst e; rw [HE.out]; exact beq_false hq
          · exact HN.out j (by omega)
        case measure => simp [intOf]; omega
    · clear hc
      go_wp2
      go_ret
      exact ⟨⟨-1, rfl, .inl ⟨rfl, not_mem_of (fun j hj => HN.out j (by omega))⟩⟩, rfl⟩
end Go.Proofs.Qxb6617708a
