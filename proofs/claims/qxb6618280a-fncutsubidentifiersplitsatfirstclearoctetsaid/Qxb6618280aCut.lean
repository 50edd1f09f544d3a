/-
  The walks of zzBytes_FnCutSubidentifierSplitsAtFirstClearOctet (4), cutSubidentifier (6) and ZZcutSubidentifier (5).
-/
import Derived.Test.Qxb6618280aRows
import Derived.WalkKit
import Derived.WalkSpells
import Derived.WalkLawsBesides
import Derived.Deep.QuietTactic
import Derived.BigQuiet
namespace Go.Proofs.Qxb6618280a
open Go.RowKit
set_option linter.unusedVariables false

set_option maxHeartbeats 400000 in
theorem bytes_any (a b : ByteArray) (w : World) (ha : a.size ≤ maxLen) (hb : b.size ≤ maxLen) :
    Calls Try.prog 4 #[.string a, .string b] w fun e w' => (∃ r : Bool, e = .returned (.bool r)) ∧ w = w' := by
  unfold maxLen at ha hb
  go_enter Try.func4, Try.ntmps4
  go_wp2
  all_goals (go_ret; exact ⟨⟨_, rfl⟩, rfl⟩)

theorem and128_all : ∀ n : Fin 256, (bits BinOp.and IntKind.u8 ((n.val : Nat) : Int) 128 != 0) = decide (128 ≤ n.val) := by decide +kernel

theorem and128 (u : UInt8) : (bits BinOp.and IntKind.u8 (u.toNat : Int) 128 != 0) = decide (128 ≤ u.toNat) := and128_all ⟨u.toNat, u.toNat_lt⟩

/-- The first octet of s whose top bit is clear is the n-th. -/
def Clear (s : ByteArray) (n : Nat) : Prop := ∃ h : n < s.size, s[n].toNat < 128 ∧ ∀ (j : Nat) (hj : j < n), 128 ≤ s[j].toNat

set_option maxHeartbeats 400000 in
theorem cut_any (s : ByteArray) (n : Nat) (w : World) (hs : s.size ≤ 2000000) (hc : Clear s n) :
    Calls Try.prog 6 #[.string s] w fun e w' => e = .returned (.tuple #[.string (s.extract 0 (n + 1)), .string (s.extract (n + 1) s.size)]) ∧ ∃ m, w' = w.drewN m := by
  obtain ⟨hn, hlow, hhigh⟩ := hc
  go_enter Try.func6, Try.ntmps6
  go_wp2
  go_loop [4] (fun i => ∃ k : Nat, k ≤ n ∧ i = .int .i64 k) (fun i => n - (intOf i).toNat)
  case atStart => exact ⟨0, Nat.zero_le _, rfl⟩
  case round =>
    obtain ⟨k, hk, rfl⟩ := hrel
    have hks : k < s.size := by omega
    by_cases hlt : k < n
    · have hb : (bits BinOp.and IntKind.u8 (s[k].toNat : Int) 128 != 0) = true := by rw [and128]; simpa using hhigh k hlt
      clear hhigh hlow
      go_wp2
      go_round
      case rel => exact ⟨k + 1, by omega, by go_num⟩
      case measure => simp [intOf]; omega
    · obtain rfl : k = n := by omega
      have hb : (bits BinOp.and IntKind.u8 (s[k].toNat : Int) 128 != 0) = false := by rw [and128]; simpa using hlow
      have hk1 : (k : Int) + 1 ≤ (s.size : Int) := by omega
      clear hhigh hlow
      go_wp2
      go_quiet (fail)
      go_wp2
      go_ret2
      exact ⟨rfl, _, rfl⟩
end Go.Proofs.Qxb6618280a
