/-
  The walk of FnStringMatchesAutomaton (function 3).
-/
import Derived.Test.Qxb6617742aModel
namespace Go.Proofs.Qxb6617742a
open Go.RowKit
set_option linter.unusedVariables false

set_option maxHeartbeats 400000 in
theorem bytes5 (a : Option Addr) (n ca : Nat) (i d : Int) (w : World) (ha : n ≤ maxLen) :
    Calls Try.prog 5 #[.slice a n ca, .int .i64 i, .int .i64 d] w fun e w' => (∃ r : Bool, e = .returned (.bool r)) ∧ w = w' := by
  unfold maxLen at ha
  go_enter Try.func5, Try.ntmps5
  go_wp2
  all_goals (go_ret; exact ⟨⟨_, rfl⟩, rfl⟩)

set_option maxHeartbeats 400000 in
/-- The text is above the law's own bound, or the start lies outside it: true at once. -/
theorem match_out (a : Option Addr) (n ca : Nat) (i d : Int) (w : World) (ha : n ≤ maxLen) (h : 1048576 < n ∨ i < 0 ∨ (n : Int) ≤ i) :
    Calls Try.prog 3 #[.slice a n ca, .int .i64 i, .int .i64 d] w fun e w' => e = .returned (.bool true) ∧ Below w.heap.size w w' := by
  by_cases h1 : 1048576 < n
  · clear h
    go_enter Try.func3, Try.ntmps3
    go_wp2_with (first | (go_at_call 5; refine (bytes5 a _ ca i d _ ha).mono ?_; rintro e w' ⟨⟨r, rfl⟩, rfl⟩) | fail)
    all_goals (go_ret; exact ⟨rfl, Below.refl _ _⟩)
  · by_cases h2 : i < 0
    · clear h
      go_enter Try.func3, Try.ntmps3
      go_wp2_with (first | (go_at_call 5; refine (bytes5 a _ ca i d _ ha).mono ?_; rintro e w' ⟨⟨r, rfl⟩, rfl⟩) | fail)
      all_goals (go_ret; exact ⟨rfl, Below.refl _ _⟩)
    · have h3 : (n : Int) ≤ i := by omega
      clear h
      go_enter Try.func3, Try.ntmps3
      go_wp2_with (first | (go_at_call 5; refine (bytes5 a _ ca i d _ ha).mono ?_; rintro e w' ⟨⟨r, rfl⟩, rfl⟩) | fail)
      all_goals (go_ret; exact ⟨rfl, Below.refl _ _⟩)

theorem Text.later {w w' : World} {g : Nat} {t : List Int} (h : Text w g t) (hb : Below w.heap.size w w') : Text w' g t :=
  ⟨Nat.lt_of_lt_of_le h.1 hb.size, fun j hj => (hb.cell (p := ⟨g, j, none⟩) h.1).trans (h.2.1 j hj), h.2.2⟩

set_option maxHeartbeats 1000000 in
set_option maxRecDepth 100000 in
theorem match_any (ad : Addr) (ca i : Nat) (t : List Int) (d : Int) (w : World) (ht : Bytes w (some ad) t) (hn : t.length ≤ 1048576) (hi : i < t.length) :
    Calls Try.prog 3 #[.slice (some ad) t.length ca, .int .i64 i, .int .i64 d] w fun e w' => e = .returned (.bool true) ∧ Below w.heap.size w w' := by
  go_enter Try.func3, Try.ntmps3
  go_wp2_with (first | (go_at_call 5; refine (bytes5 (some ad) _ ca i d _ (by unfold maxLen; omega)).mono ?_; rintro e w' ⟨⟨r, rfl⟩, rfl⟩) | fail)
  · go_ret
    exact ⟨rfl, Below.refl _ _⟩
  · refine (clone_any ad ca t _ ht (by omega)).mono ?_
    rintro e w1 ⟨rfl, ho1, bel1⟩
    have T1 : Hid (Text w1 w.heap.size t) := ho1.text ht.byte
    have Y1 : Hid (Bytes w1 (some ⟨w.heap.size, 0, none⟩) t) := ho1.bytes ht.byte
    have B1 := show Hid _ from bel1
    have HB := show Hid _ from ht.byte
    clear ho1 bel1 ht
    go_wp2_with fail
    refine (clone_any _ t.length t _ Y1.out (by omega)).mono ?_
    rintro e w2 ⟨rfl, ho2, bel2⟩
    have T2 : Hid (Text w2 w1.heap.size t) := ho2.text HB.out
    have T1' : Hid (Text w2 w.heap.size t) := T1.out.later bel2
    have B2 : Hid (Below w.heap.size w w2) := B1.out.trans (bel2.mono B1.out.size)
    clear ho2 bel2 T1 Y1 B1
    obtain ⟨R, hR⟩ : ∃ R, aut t 0 (i + 1) = R := ⟨_, rfl⟩
    have HR := show Hid _ from hR
    clear hR
    go_wp2_with fail
    refine (zz_any w1.heap.size t.length t d i R _ T2.out (by omega) hi HR.out).mono ?_
    rintro e w3 ⟨rfl, m, hw3⟩
    have bel3 : Below w2.heap.size w2 w3 := by rw [hw3]; exact below_drewN ((Below.refl _ _).alloc (Nat.le_refl _) _) _
    have T3 : Hid (Text w3 w1.heap.size t) := T2.out.later bel3
    have T3' : Hid (Text w3 w.heap.size t) := T1'.out.later bel3
    have B3 : Hid (Below w.heap.size w w3) := B2.out.trans (bel3.mono B2.out.size)
    clear hw3 bel3 T2 T1' B2
    go_wp2_with fail
    refine (model_any w.heap.size t.length t i R _ T3'.out (by omega) hi HR.out).mono ?_
    rintro e w4 ⟨rfl, rfl⟩
    go_wp2_with fail
    refine (same_any w1.heap.size w.heap.size t.length t.length t _ T3.out T3'.out (by omega)).mono ?_
    rintro e w5 ⟨rfl, n, rfl⟩
    go_wp2
    go_ret
    exact ⟨rfl, below_drewN B3.out _⟩
end Go.Proofs.Qxb6617742a
