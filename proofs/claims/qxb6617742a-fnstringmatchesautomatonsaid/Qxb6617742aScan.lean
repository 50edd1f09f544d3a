/-
  The walks of isHexDigit (function 15), (*scanner).string (function 12) and ZZScannerString (function 7).
-/
import Derived.Test.Qxb6617742aRows
import Derived.Test.Qxb6617742aPlain
import Derived.WalkKit
import Derived.WalkSpells
import Derived.WalkLawsBesides
import Derived.Deep.QuietTactic
import Derived.BigQuiet
import Derived.Deep.LoopGhost
namespace Go.Proofs.Qxb6617742a
open Go.RowKit
set_option linter.unusedVariables false

theorem ret_bool {a b : Bool} (h : a = b) : Ending.returned (.bool a) = .returned (.bool b) := by rw [h]

set_option maxHeartbeats 400000 in
theorem hex_any (c : Int) (w : World) (h0 : 0 ≤ c) (h1 : c ≤ 255) :
    Calls Try.prog 15 #[.int .u8 c] w fun e w' => e = .returned (.bool (isHex c)) ∧ w' = w := by
  go_enter Try.func15, Try.ntmps15
  go_wp2
  all_goals (go_ret; refine ⟨ret_bool ?_, rfl⟩; rw [Bool.eq_iff_iff]; simp [isHex]; try omega)

/-- The bytes of a text in block g. -/
def Text (w : World) (g : Nat) (t : List Int) : Prop := g < w.heap.size ∧ (∀ j, j < t.length → w.cell? ⟨g, j, none⟩ = some (.int .u8 (t.getD j 0))) ∧ ∀ j, 0 ≤ t.getD j 0 ∧ t.getD j 0 ≤ 255

theorem set_at (w : World) (a x b v : Value) (T : TypeId) (m : Nat) : ((w.alloc (.cells #[a, x, b] T)).drewN m).setCell ⟨w.heap.size, 1, none⟩ v = (w.alloc (.cells #[a, v, b] T)).drewN m := by
  have e : (w.alloc (.cells #[a, x, b] T)).setCell ⟨w.heap.size, 1, none⟩ v = w.alloc (.cells #[a, v, b] T) := by
    rw [World.setCell_alloc_at _ _ _ _ _ rfl]
    rfl
  calc _ = ((w.alloc (.cells #[a, x, b] T)).setCell ⟨w.heap.size, 1, none⟩ v).drewN m := rfl
    _ = _ := by rw [e]

theorem quiet_same2 {P : Program} {f : FuncId} {args : Array Value} {W : World} {a n : Nat} {v : Value} (h : ∀ W, Calls P f args W fun e w' => e = .returned v ∧ w' = W) : Calls P f args (W.drewN (a + n)) fun e w'' => e = .returned v ∧ ∃ m, w'' = W.drewN (a + m) :=
  (h _).mono fun _ _ ⟨he, hm⟩ => ⟨he, n, hm⟩

theorem no_short {c : Int} (h : c = 34 ∨ c = 92 ∨ c = 47 ∨ c = 98 ∨ c = 102 ∨ c = 110 ∨ c = 114 ∨ c = 116) (f1 : (c == 34) = false) (f2 : (c == 92) = false) (f3 : (c == 47) = false) (f4 : (c == 98) = false) (f5 : (c == 102) = false) (f6 : (c == 110) = false) (f7 : (c == 114) = false) (f8 : (c == 116) = false) : False := by
  rcases h with rfl | rfl | rfl | rfl | rfl | rfl | rfl | rfl
  · simp at f1
  · simp at f2
  · simp at f3
  · simp at f4
  · simp at f5
  · simp at f6
  · simp at f7
  · simp at f8

set_option maxHeartbeats 2000000 in
set_option maxRecDepth 100000 in
theorem scan_any (g cap : Nat) (t : List Int) (d : Int) (i : Nat) (R : Bool × Nat) (w : World) (ht : Text w g t) (hn : t.length ≤ 2000000) (hi : i < t.length) (hR : aut t 0 (i + 1) = R) :
    Calls Try.prog 12 #[.pointer (some ⟨w.heap.size, 0, none⟩)] (w.alloc (.cells #[.slice (some ⟨g, 0, none⟩) t.length cap, .int .i64 i, .int .i64 d] 33)) fun e w' => e = .returned (.bool R.1) ∧
      ∃ m, w' = (w.alloc (.cells #[.slice (some ⟨g, 0, none⟩) t.length cap, .int .i64 R.2, .int .i64 d] 33)).drewN m := by
  obtain ⟨hg, hc, hb⟩ := ht
  have HR : Hid (aut t 0 (i + 1) = R) := hR
  have hset := fun x v m => set_at w (.slice (some ⟨g, 0, none⟩) t.length cap) x (.int .i64 d) v 33 m
  clear hR
  go_enter Try.func12, Try.ntmps12
  go_wp2
  go_loopg [3] (t.length - (i + 1)) (fun k _ wr => ∃ (p m : Nat), p ≤ t.length ∧ i < p ∧ k = t.length - p ∧ Hid (aut t 0 p = R) ∧ wr = (w.alloc (.cells #[.slice (some ⟨g, 0, none⟩) t.length cap, .int .i64 p, .int .i64 d] 33)).drewN m)
  case atStart => exact ⟨i + 1, 0, by omega, by omega, rfl, HR, rfl⟩
  case round =>
    obtain ⟨p, m, hp, hip, rfl, HP, rfl⟩ := hrel
    clear HR
    by_cases hlt : p < t.length
    · obtain ⟨c, hcc⟩ : ∃ c, c = t.getD p 0 := ⟨_, rfl⟩
      have hcx : ∀ o, (w.alloc o).cell? ⟨g, p, none⟩ = some (.int .u8 c) := fun o => by rw [World.cell?_alloc_past _ _ _ hg, hcc]; exact hc p hlt
      have hb0 := hb p
      rw [← hcc] at hb0
      have hpi : (p : Int) < (t.length : Int) := by omega
      have HCC : Hid (c = t.getD p 0) := hcc
      have HC : Hid (∀ j, j < t.length → w.cell? ⟨g, j, none⟩ = some (.int .u8 (t.getD j 0))) := hc
      have HB : Hid (∀ j, 0 ≤ t.getD j 0 ∧ t.getD j 0 ≤ 255) := hb
      clear hcc hc hb
      go_wp2
      go_quiet (fail)
      go_wp2
      go_quiet (fail)
      by_cases h34 : c = 34
      · have e34 : (c == 34) = true := by simpa using h34
        have HF : Hid (R = (true, p + 1)) := by
          show R = _
          rw [← HP.out, aut_yes hlt (by rw [← HCC.out, h34]; exact stp_quote)]
        clear h34
        go_wp2
        go_ret
        rw [HF.out]
        exact ⟨rfl, _, by first | rfl | exact World.drewN_drewN _ _ _⟩
      · have e34 : (c == 34) = false := by simpa using h34
        by_cases h32 : c < 32
        · have HF : Hid (R = (false, p)) := by
            show R = _
            rw [← HP.out, aut_no hlt (by rw [← HCC.out]; exact stp_low h34 h32)]
          clear h34
          go_wp2
          go_ret
          rw [HF.out]
          exact ⟨rfl, _, by first | rfl | exact World.drewN_drewN _ _ _⟩
        · by_cases h92 : c = 92
          · have e92 : (c == 92) = true := by simpa using h92
            have HQ : Hid (aut t 1 (p + 1) = R) := by
              show _ = R
              rw [← HP.out, aut_on (n := 1) hlt (by rw [← HCC.out, h92]; exact stp_esc) (by decide) (by decide)]
            clear HP h34 h92
            by_cases hend : p + 1 < t.length
            · obtain ⟨c1, hcc1⟩ : ∃ c1, c1 = t.getD (p + 1) 0 := ⟨_, rfl⟩
              have hcx1 : ∀ o, (w.alloc o).cell? ⟨g, p + 1, none⟩ = some (.int .u8 c1) := fun o => by rw [World.cell?_alloc_past _ _ _ hg, hcc1]; exact HC.out (p + 1) hend
              have hb1 := HB.out (p + 1)
              rw [← hcc1] at hb1
              have hpi1 : (p : Int) + 1 < (t.length : Int) := by omega
              have hne : ((p : Int) + 1 == (t.length : Int)) = false := by simpa using (by omega : (p : Int) + 1 ≠ t.length)
              have HCC1 : Hid (c1 = t.getD (p + 1) 0) := hcc1
              clear hcc1
              go_wp2
              go_quiet (fail)
              go_wp2
              go_quiet (fail)
              by_cases hsh : isShort c1 = true
              · have HF : Hid (aut t 0 (p + 1 + 1) = R) := by
                  show _ = R
                  rw [← HQ.out, aut_on (n := 0) hend (by rw [← HCC1.out]; exact stp_short hsh) (by decide) (by decide)]
                have hs8 : c1 = 34 ∨ c1 = 92 ∨ c1 = 47 ∨ c1 = 98 ∨ c1 = 102 ∨ c1 = 110 ∨ c1 = 114 ∨ c1 = 116 := by simpa [isShort] using hsh
                have HS := show Hid _ from hs8
                have e117 : (c1 == 117) = false := by simpa using (by omega : c1 ≠ 117)
                clear hsh HQ hs8
                go_wp2
                all_goals first
                  | (exact (no_short HS.out (by assumption) (by assumption) (by assumption) (by assumption) (by assumption) (by assumption) (by assumption) (by assumption)).elim)
                  | (go_roundg (t.length - (p + 1 + 1))
                     case measure => omega
                     case rel => exact ⟨p + 1 + 1, _, by omega, by omega, rfl, HF, rfl⟩)
              · have hsf : isShort c1 = false := by simpa using hsh
                have hs8 : c1 ≠ 34 ∧ c1 ≠ 92 ∧ c1 ≠ 47 ∧ c1 ≠ 98 ∧ c1 ≠ 102 ∧ c1 ≠ 110 ∧ c1 ≠ 114 ∧ c1 ≠ 116 := by simpa [isShort] using hsf
                have f1 : (c1 == 34) = false := by simpa using hs8.1
                have f2 : (c1 == 92) = false := by simpa using hs8.2.1
                have f3 : (c1 == 47) = false := by simpa using hs8.2.2.1
                have f4 : (c1 == 98) = false := by simpa using hs8.2.2.2.1
                have f5 : (c1 == 102) = false := by simpa using hs8.2.2.2.2.1
                have f6 : (c1 == 110) = false := by simpa using hs8.2.2.2.2.2.1
                have f7 : (c1 == 114) = false := by simpa using hs8.2.2.2.2.2.2.1
                have f8 : (c1 == 116) = false := by simpa using hs8.2.2.2.2.2.2.2
                by_cases h117 : c1 = 117
                · have f9 : (c1 == 117) = true := by simpa using h117
                  have HF : Hid (aut t (due 0) (p + 2) = R) := by
                    show _ = R
                    rw [← HQ.out, aut_on (n := due 0) hend (by rw [← HCC1.out, h117]; exact stp_u) (due_ok (by omega)).1 (due_ok (by omega)).2]
                  clear hsh HQ hs8 hsf h117
                  go_wp2
                  clear f1 f2 f3 f4 f5 f6 f7 f8 f9
                  go_loopg [92] 4 (fun k v wr => ∃ (j q m : Nat), j ≤ 4 ∧ v = .int .i64 j ∧ k = 4 - j ∧ Hid (q = p + 1 + j) ∧ q < t.length ∧ Hid (aut t (due j) (p + 2 + j) = R) ∧ wr = (w.alloc (.cells #[.slice (some ⟨g, 0, none⟩) t.length cap, .int .i64 q, .int .i64 d] 33)).drewN m)
                  case atStart => exact ⟨0, p + 1, _, by omega, rfl, rfl, rfl, by omega, HF, rfl⟩
                  case round =>
                    obtain ⟨j, q, m, hj, rfl, rfl, HQ, hql, HJ, rfl⟩ := hrel
                    clear HF
                    by_cases hj4 : j < 4
                    · obtain ⟨r, hr⟩ : ∃ r : Nat, r = q + 1 := ⟨_, rfl⟩
                      have hr1 : (q : Int) + 1 = (r : Int) := by omega
                      have HRQ : Hid (r = q + 1) := hr
                      clear hr
                      by_cases hq1 : r < t.length
                      · obtain ⟨c2, hcc2⟩ : ∃ c2, c2 = t.getD r 0 := ⟨_, rfl⟩
                        have hcx2 : ∀ o, (w.alloc o).cell? ⟨g, r, none⟩ = some (.int .u8 c2) := fun o => by rw [World.cell?_alloc_past _ _ _ hg, hcc2]; exact HC.out r hq1
                        have hb2 := HB.out r
                        rw [← hcc2] at hb2
                        have hqi1 : (r : Int) < (t.length : Int) := by omega
                        have hqne : ((r : Int) == (t.length : Int)) = false := by simpa using (by omega : (r : Int) ≠ (t.length : Int))
                        have HCC2 : Hid (c2 = t.getD r 0) := hcc2
                        clear hcc2
                        go_wp2
                        go_quiet ((go_at_call 15; first | exact Calls.quiet_of_same (hex_any _ _ hb2.1 hb2.2) | exact quiet_same2 (fun W => hex_any _ W hb2.1 hb2.2)))
                        go_wp2
                        · have hx : isHex c2 = false := by
                            have : (!isHex c2) = true := by assumption
                            simpa using this
                          have HF : Hid (R = (false, r)) := by
                            show R = _
                            have e : p + 2 + j = r := by have := HQ.out; have := HRQ.out; omega
                            rw [← HJ.out, e, aut_no hq1 (by rw [← HCC2.out]; exact stp_nohex hj4 hx)]
                          go_ret
                          rw [HF.out]
                          exact ⟨rfl, _, by first | rfl | exact World.drewN_drewN _ _ _⟩
                        · have hx : isHex c2 = true := by
                            have : (!isHex c2) = false := by assumption
                            simpa using this
                          have HF : Hid (aut t (due (j + 1)) (p + 2 + (j + 1)) = R) := by
                            show _ = R
                            have e : p + 2 + j = r := by have := HQ.out; have := HRQ.out; omega
                            rw [← HJ.out, e, aut_on (n := due (j + 1)) hq1 (by rw [← HCC2.out]; exact stp_hex hj4 hx) (due_ok (by omega)).1 (due_ok (by omega)).2, ← e]
                            rfl
                          have HQ' : Hid (r = p + 1 + (j + 1)) := by
                            show r = _
                            have := HQ.out; have := HRQ.out; omega
                          go_roundg (4 - (j + 1))
                          case measure => omega
                          case rel => exact ⟨j + 1, r, _, by omega, by go_num, rfl, HQ', hq1, HF, rfl⟩
                      · have hqe : (r : Int) = (t.length : Int) := by have := HRQ.out; omega
                        have heq : ((r : Int) == (t.length : Int)) = true := by simpa using hqe
                        have HF : Hid (R = (false, r)) := by
                          show R = _
                          have e : p + 2 + j = r := by have := HQ.out; have := HRQ.out; omega
                          rw [← HJ.out, e, aut_end (by omega)]
                        clear hqe
                        go_wp2
                        go_quiet (fail)
                        go_wp2
                        go_ret
                        rw [HF.out]
                        exact ⟨rfl, _, by first | rfl | exact World.drewN_drewN _ _ _⟩
                    · have HF : Hid (aut t 0 (q + 1) = R) := by
                        show _ = R
                        have hj' : j = 4 := by omega
                        have e : q + 1 = p + 2 + j := by have := HQ.out; omega
                        rw [← HJ.out, e, hj']
                        rfl
                      have hqp : i < q + 1 := by have := HQ.out; omega
                      have hqp2 : p < q + 1 := by have := HQ.out; omega
                      go_wp2
                      go_roundg (t.length - (q + 1))
                      case measure => omega
                      case rel => exact ⟨q + 1, _, by omega, by omega, rfl, HF, rfl⟩
                · have f9 : (c1 == 117) = false := by simpa using h117
                  have HF : Hid (R = (false, p + 1)) := by
                    show R = _
                    rw [← HQ.out, aut_no hend (by rw [← HCC1.out]; exact stp_bad hsf h117)]
                  clear hsh HQ hs8 hsf h117
                  go_wp2
                  go_ret
                  rw [HF.out]
                  exact ⟨rfl, _, by first | rfl | exact World.drewN_drewN _ _ _⟩
            · have hpe : (p : Int) + 1 = (t.length : Int) := by omega
              have heq : ((p : Int) + 1 == (t.length : Int)) = true := by simpa using hpe
              have HF : Hid (R = (false, p + 1)) := by
                show R = _
                rw [← HQ.out, aut_end (by omega)]
              clear HQ hpe
              go_wp2
              go_quiet (fail)
              go_wp2
              go_ret
              rw [HF.out]
              exact ⟨rfl, _, by first | rfl | exact World.drewN_drewN _ _ _⟩
          · have e92 : (c == 92) = false := by simpa using h92
            have HF : Hid (aut t 0 (p + 1) = R) := by
              show _ = R
              rw [← HP.out, aut_on (n := 0) hlt (by rw [← HCC.out]; exact stp_plain h34 h32 h92) (by decide) (by decide)]
            clear h34 h92
            go_wp2
            go_roundg (t.length - (p + 1))
            case measure => omega
            case rel => exact ⟨p + 1, _, by omega, by omega, rfl, HF, rfl⟩
    · have hge : (t.length : Int) ≤ p := by omega
      have HF : Hid (R = (false, p)) := by
        show R = _
        rw [← HP.out, aut_end (by omega)]
      go_wp2
      go_quiet (fail)
      go_wp2
      go_ret
      rw [HF.out]
      exact ⟨rfl, _, by first | rfl | exact World.drewN_drewN _ _ _⟩
end Go.Proofs.Qxb6617742a
