/-
  The walks of zzBytes_FnElementStringNamePrefixCut (function 4) and (*element).String (function 8).
-/
import Derived.Test.Qxb6617736aRows
import Derived.WalkKit
import Derived.WalkSpells
import Derived.WalkLawsBesides
import Derived.Deep.QuietTactic
import Derived.BigQuiet
namespace Go.Proofs.Qxb6617736a
open Go.RowKit
set_option linter.unusedVariables false

set_option maxHeartbeats 400000 in
theorem bytes_any (a b c : ByteArray) (w : World) (ha : a.size ≤ maxLen) (hb : b.size ≤ maxLen) (hc : c.size ≤ maxLen) :
    Calls Try.prog 4 #[.string a, .string b, .string c] w fun e w' => (∃ r : Bool, e = .returned (.bool r)) ∧ w = w' := by
  unfold maxLen at ha hb hc
  go_enter Try.func4, Try.ntmps4
  go_wp2
  all_goals (go_ret; exact ⟨⟨_, rfl⟩, rfl⟩)

/-- Is the namespace XACML's own? -/
def isNs (sp : ByteArray) : Prop := (sp.toList == [117, 114, 110, 58, 111, 97, 115, 105, 115, 58, 110, 97, 109, 101, 115, 58, 116, 99, 58, 120, 97, 99, 109, 108, 58, 51, 46, 48, 58, 99, 111, 114, 101, 58, 115, 99, 104, 101, 109, 97, 58, 119, 100, 45, 49, 55]) = true
def notNs (sp : ByteArray) : Prop := (sp.toList == [117, 114, 110, 58, 111, 97, 115, 105, 115, 58, 110, 97, 109, 101, 115, 58, 116, 99, 58, 120, 97, 99, 109, 108, 58, 51, 46, 48, 58, 99, 111, 114, 101, 58, 115, 99, 104, 101, 109, 97, 58, 119, 100, 45, 49, 55]) = false

/-- What String answers for an element of the namespace sp and the name nm. -/
def Msg (sp nm r : ByteArray) : Prop :=
  (isNs sp ∧ r = nm) ∨ (notNs sp ∧ sp.toList.isEmpty = true ∧ r = nm ++ ⟨#[32, 105, 110, 32, 110, 111, 32, 110, 97, 109, 101, 115, 112, 97, 99, 101]⟩) ∨ (notNs sp ∧ sp.toList.isEmpty = false ∧ r = nm ++ ⟨#[32, 105, 110, 32, 110, 97, 109, 101, 115, 112, 97, 99, 101, 32]⟩ ++ sp)

set_option maxHeartbeats 400000 in
theorem str_any (p : Nat) (sp nm : ByteArray) (w : World) (h1 : sp.size ≤ 65536) (h2 : nm.size ≤ 200000)
    (c0 : w.cell? ⟨p, 0, none⟩ = some (.string sp)) (c1 : w.cell? ⟨p, 1, none⟩ = some (.string nm)) :
    Calls Try.prog 8 #[.pointer (some ⟨p, 0, none⟩)] w fun e w' => (∃ r : ByteArray, e = .returned (.string r) ∧ Msg sp nm r) ∧ ∃ m, w' = w.drewN m := by
  go_enter Try.func8, Try.ntmps8
  go_wp2
  · go_ret
    exact ⟨⟨nm, rfl, .inl ⟨by assumption, rfl⟩⟩, 0, rfl⟩
  · go_ret
    exact ⟨⟨_, rfl, .inr (.inl ⟨by assumption, by assumption, rfl⟩)⟩, 0, rfl⟩
  · go_quiet (fail)
    go_wp2
    go_ret
    exact ⟨⟨_, rfl, .inr (.inr ⟨by assumption, by assumption, rfl⟩)⟩, _, rfl⟩

set_option maxHeartbeats 400000 in
theorem zz_any (sp nm : ByteArray) (w : World) (h1 : sp.size ≤ 65536) (h2 : nm.size ≤ 200000) :
    Calls Try.prog 5 #[.string sp, .string nm] w fun e w' => (∃ r : ByteArray, e = .returned (.string r) ∧ Msg sp nm r) ∧ ∃ c m, w' = (w.alloc (.cells c 30)).drewN m := by
  go_enter Try.func5, Try.ntmps5
  go_wp2_with (first
    | (go_at_call 8; refine (str_any w.heap.size sp nm _ h1 h2 ?_ ?_).mono ?_)
    | fail)
  · go_simp
  · go_simp
  · rintro e w' ⟨⟨r, rfl, hr⟩, m, rfl⟩
    have HR := show Hid _ from hr
    clear hr
    go_wp2
    go_ret
    exact ⟨⟨r, rfl, HR.out⟩, _, m, rfl⟩

set_option maxHeartbeats 400000 in
theorem pre_any (s p : ByteArray) (w : World) (hs : s.size ≤ 400000) (hp : p.size ≤ s.size) (h : ∀ (i : Nat) (h1 : i < p.size), s[i] = p[i]) :
    Calls Try.prog 6 #[.string s, .string p] w fun e w' => e = .returned (.bool true) ∧ ∃ m, w' = w.drewN m := by
  go_enter Try.func6, Try.ntmps6
  go_wp2
  go_loopw [5] (fun i wr => ∃ (k m : Nat), k ≤ p.size ∧ i = .int .i64 k ∧ wr = w.drewN m) (fun i _ => p.size - (intOf i).toNat)
  case atStart => exact ⟨0, 0, Nat.zero_le _, rfl, rfl⟩
  case round =>
    obtain ⟨k, m, hk, rfl, rfl⟩ := hrel
    by_cases hlt : k < p.size
    · have hls : k < s.size := by omega
      have hl1 : (k : Int) < (p.size : Int) := by omega
      have hl2 : (k : Int) < (s.size : Int) := by omega
      have hne : ((s[k].toNat : Int) != (p[k].toNat : Int)) = false := by rw [h k hlt]; simp
      go_wp2
      go_quiet (fail)
      go_wp2
      go_roundw
      case rel => exact ⟨k + 1, _, by omega, by go_num, rfl⟩
      case measure => simp [intOf]; omega
    · go_wp2
      go_ret
      exact ⟨rfl, _, rfl⟩

set_option maxHeartbeats 400000 in
theorem suf_any (s p : ByteArray) (w : World) (hs : s.size ≤ 400000) (hp : p.size ≤ s.size) (h : ∀ (i : Nat) (h1 : i < p.size), s[s.size - p.size + i] = p[i]) :
    Calls Try.prog 7 #[.string s, .string p] w fun e w' => e = .returned (.bool true) ∧ ∃ m, w' = w.drewN m := by
  go_enter Try.func7, Try.ntmps7
  go_wp2
  go_loopw [6] (fun i wr => ∃ (k m : Nat), k ≤ p.size ∧ i = .int .i64 k ∧ wr = w.drewN m) (fun i _ => p.size - (intOf i).toNat)
  case atStart => exact ⟨0, 0, Nat.zero_le _, rfl, rfl⟩
  case round =>
    obtain ⟨k, m, hk, rfl, rfl⟩ := hrel
    by_cases hlt : k < p.size
    · obtain ⟨d, hd⟩ : ∃ d : Nat, d = s.size - p.size + k := ⟨_, rfl⟩
      have hls : d < s.size := by omega
      have hl1 : (k : Int) < (p.size : Int) := by omega
      have hl2 : (d : Int) < (s.size : Int) := by omega
      have hwr : IntKind.i64.wrap ((s.size : Int) - (p.size : Int) + (k : Int)) = (d : Int) := by rw [IntWalk.i64_in _ (by omega)]; omega
      have hne : ((s[d].toNat : Int) != (p[k].toNat : Int)) = false := by
        have := h k hlt
        subst hd
        rw [this]; simp
      clear h hd
      go_wp2
      go_quiet (fail)
      go_wp2
      go_roundw
      case rel => exact ⟨k + 1, _, by omega, by go_num, rfl⟩
      case measure => simp [intOf]; omega
    · go_wp2
      go_ret
      exact ⟨rfl, _, rfl⟩
end Go.Proofs.Qxb6617736a
