/-
  The walks of ZZScannerString (function 7) and zzCloneBytes (function 6).
-/
import Derived.Test.Qxb6617742aScan
namespace Go.Proofs.Qxb6617742a
open Go.RowKit
set_option linter.unusedVariables false

theorem info5 : (Try.prog.info? 5).map (fun i => (i.zero, i.size, i.bytes)) = some (some (.int .u8 0), 1, 1) := by kernel_rfl

set_option maxHeartbeats 400000 in
theorem zz_any (g cap : Nat) (t : List Int) (d : Int) (i : Nat) (R : Bool × Nat) (w : World) (ht : Text w g t) (hn : t.length ≤ 2000000) (hi : i < t.length) (hR : aut t 0 (i + 1) = R) :
    Calls Try.prog 7 #[.slice (some ⟨g, 0, none⟩) t.length cap, .int .i64 i, .int .i64 d] w fun e w' => e = .returned (.tuple #[.bool R.1, .int .i64 R.2, .int .i64 d]) ∧
      ∃ m, w' = (w.alloc (.cells #[.slice (some ⟨g, 0, none⟩) t.length cap, .int .i64 R.2, .int .i64 d] 33)).drewN m := by
  have HR : Hid (aut t 0 (i + 1) = R) := hR
  have HT : Hid (Text w g t) := ht
  clear hR ht
  go_enter Try.func7, Try.ntmps7
  go_wp2_with (first
    | (go_at_call 12; refine (scan_any g cap t d i R w HT.out hn hi HR.out).mono ?_)
    | fail)
  rintro e w1 ⟨rfl, m, rfl⟩
  go_wp2
  go_quiet (fail)
  go_wp2
  go_ret3
  exact ⟨rfl, _, by first | rfl | exact World.drewN_drewN _ _ _⟩

/-- A slice of bytes that came in: its bytes zs; where there is one the slice leads to them. -/
structure Bytes (w : World) (ao : Option Addr) (zs : List Int) : Prop where
  byte : ∀ j, 0 ≤ zs.getD j 0 ∧ zs.getD j 0 ≤ 255
  cell : ∀ j, j < zs.length → ∃ b off, ao = some ⟨b, off, none⟩ ∧ b < w.heap.size ∧ w.cell? ⟨b, off + j, none⟩ = some (.int .u8 (zs.getD j 0))

/-- A row of bytes of the call's own, in block g. -/
def Own (B : Nat) (w : World) (g cap : Nat) (zs : List Int) : Prop := w.ownsRow B 5 1 (.slice (some ⟨g, 0, none⟩) zs.length cap) zs.length (zs.map (Value.int .u8))

theorem own_get {w : World} {base : Nat} {e : TypeId} {g n cap : Nat} {xs : List Value} (h : w.ownsRow base e 1 (.slice (some ⟨g, 0, none⟩) n cap) n xs) {j : Nat} {u : Value} (hu : xs[j]? = some u) : w.cell? ⟨g, j, none⟩ = some u := by
  have := h.cells (g := g) rfl j u hu
  rw [Addr.add_lit, Nat.zero_add] at this
  exact this

theorem Own.text {B g cap : Nat} {w : World} {zs : List Int} (h : Own B w g cap zs) (hb : ∀ j, 0 ≤ zs.getD j 0 ∧ zs.getD j 0 ≤ 255) : Text w g zs :=
  ⟨(h.lt g rfl).2, fun j hj => own_get h (by simp [List.getD, hj]), hb⟩

theorem Own.bytes {B g cap : Nat} {w : World} {zs : List Int} (h : Own B w g cap zs) (hb : ∀ j, 0 ≤ zs.getD j 0 ∧ zs.getD j 0 ≤ 255) : Bytes w (some ⟨g, 0, none⟩) zs :=
  ⟨hb, fun j hj => ⟨g, 0, rfl, (h.lt g rfl).2, by rw [Nat.zero_add]; exact (h.text hb).2.1 j hj⟩⟩

theorem Own.later {B g cap : Nat} {w w' : World} {zs : List Int} (h : Own B w g cap zs) (hb : Below w.heap.size w w') : Own B w' g cap zs := by
  refine ⟨h.1, ?_⟩
  rcases h.2 with h1 | ⟨g', c, cur, hv, hg, hh, r⟩
  · exact .inl h1
  · exact .inr ⟨g', c, cur, hv, hg, (hb.block g' (Array.getElem?_eq_some_iff.1 hh).1).trans hh, r⟩

theorem Own.mono {B B' g cap : Nat} {w : World} {zs : List Int} (h : Own B w g cap zs) (hB : B' ≤ B) : Own B' w g cap zs := by
  refine ⟨h.1, ?_⟩
  rcases h.2 with h1 | ⟨g', c, cur, hv, hg, hh, r⟩
  · exact .inl h1
  · exact .inr ⟨g', c, cur, hv, Nat.le_trans hB hg, hh, r⟩

theorem Bytes.later {w w' : World} {ao : Option Addr} {zs : List Int} (h : Bytes w ao zs) (hb : Below w.heap.size w w') : Bytes w' ao zs := by
  refine ⟨h.byte, fun j hj => ?_⟩
  obtain ⟨b, off, e, hlt, hc⟩ := h.cell j hj
  exact ⟨b, off, e, Nat.lt_of_lt_of_le hlt hb.size, (hb.cell hlt).trans hc⟩

theorem take_snoc {L : List Int} {k : Nat} (h : k < L.length) : L.take (k + 1) = L.take k ++ [L[k]] := List.take_succ_eq_append_getElem h

theorem fill_step {zs : List Int} {k : Nat} {z : Value} (hk : k < zs.length) : ((zs.take k).map (Value.int .u8) ++ List.replicate (zs.length - k) z).set k (.int .u8 zs[k]) = (zs.take (k + 1)).map (Value.int .u8) ++ List.replicate (zs.length - (k + 1)) z := by
  have e : zs.length - k = (zs.length - (k + 1)) + 1 := by omega
  rw [List.set_append_right _ _ (by simp; omega), e, List.replicate_succ]
  have e2 : k - ((zs.take k).map (Value.int .u8)).length = 0 := by simp; omega
  rw [e2, List.set_cons_zero, take_snoc hk, List.map_append, List.append_assoc]
  rfl

theorem fill_at {zs : List Int} {k : Nat} {z : Value} (hk : k < zs.length) : ((zs.take k).map (Value.int .u8) ++ List.replicate (zs.length - k) z)[k]? = some z := by
  have e2 : ((zs.take k).map (Value.int .u8)).length = k := by simp; omega
  rw [List.getElem?_append_right (by omega), e2, Nat.sub_self, List.getElem?_replicate, if_pos (by omega)]

set_option maxHeartbeats 400000 in
theorem clone_nil (w : World) : Calls Try.prog 6 #[.slice none 0 0] w fun e w' => e = .returned (.slice none 0 0) ∧ w = w' := by
  have hnl : ∀ (w : World) (a : Option Addr) (n c : Nat), (binOp .eql 22 (.slice a n c) (.slice none 0 0)).run Try.prog w = .ok (.bool a.isNone) w := fun w a n c => Lib.run_eql_slice_nil w _ _ a n c 0 0 Try.underlying22
  go_enter Try.func6, Try.ntmps6
  go_wp2
  go_ret
  exact ⟨rfl, rfl⟩

set_option maxHeartbeats 400000 in
theorem clone_any (ad : Addr) (cap : Nat) (zs : List Int) (w : World) (hz : Bytes w (some ad) zs) (hn : zs.length ≤ 2000000) :
    Calls Try.prog 6 #[.slice (some ad) zs.length cap] w fun e w' => e = .returned (.slice (some ⟨w.heap.size, 0, none⟩) zs.length zs.length) ∧ Own w.heap.size w' w.heap.size zs.length zs ∧ Below w.heap.size w w' := by
  obtain ⟨i0, hi, hz0, hz1, hz2⟩ := info_parts info5
  have hnl : ∀ (w : World) (a : Option Addr) (n c : Nat), (binOp .eql 22 (.slice a n c) (.slice none 0 0)).run Try.prog w = .ok (.bool a.isNone) w := fun w a n c => Lib.run_eql_slice_nil w _ _ a n c 0 0 Try.underlying22
  go_enter Try.func6, Try.ntmps6
  go_wp2_with (first
    | (at_make; refine wpList_make_full _ rfl _ _ 22 rfl w.heap.size 5 i0 (.int .u8 0) 1 Try.underlying22 hi hz0 hz1 _ _ _ _ zs.length rfl rfl rfl rfl (by rw [hz2]; omega) (by unfold maxLen; omega) (Nat.le_refl _) ?_)
    | fail)
  intro w1 hrow1 hgr1
  have hbel1 : Below w.heap.size w w1 := (Below.refl _ _).grown hgr1 (Nat.le_refl _) (fun k hk => by cases hk)
  clear hgr1
  go_wp2
  go_loopw [4] (fun i wx => ∃ (k : Nat), k ≤ zs.length ∧ i = .int .i64 k ∧ wx.ownsRow w.heap.size 5 1 (.slice (some ⟨w.heap.size, 0, none⟩) zs.length zs.length) zs.length ((zs.take k).map (Value.int .u8) ++ List.replicate (zs.length - k) (.int .u8 0)) ∧ Below w.heap.size w wx)
    (fun i _ => zs.length - (intOf i).toNat)
  case atStart =>
    refine ⟨0, Nat.zero_le _, rfl, ?_, hbel1⟩
    rw [toList_madeCells_one] at hrow1
    simpa using hrow1
  case round =>
    obtain ⟨k, hk, rfl, hrow, hbel⟩ := hrel
    by_cases hlt : k < zs.length
    · obtain ⟨b, off, e, hb, hc0⟩ := hz.cell k hlt
      obtain rfl : ad = ⟨b, off, none⟩ := by simpa using e
      have hc : wr.cell? ⟨b, off + k, none⟩ = some (.int .u8 zs[k]) := by
        rw [hbel.cell hb, hc0]; simp [List.getD, hlt]
      have hold : wr.cell? ⟨w.heap.size, k, none⟩ = some (.int .u8 0) := own_get hrow (fill_at hlt)
      have hfz := hrow.frozenAt k
      obtain ⟨hrow3, hgr3⟩ := hrow.stored k (.int .u8 zs[k])
      have R1 : Hid ((wr.setCell ⟨w.heap.size, k, none⟩ (.int .u8 zs[k])).ownsRow w.heap.size 5 1 (.slice (some ⟨w.heap.size, 0, none⟩) zs.length zs.length) zs.length ((zs.take (k + 1)).map (Value.int .u8) ++ List.replicate (zs.length - (k + 1)) (.int .u8 0))) := by
        rw [fill_step hlt] at hrow3; exact hrow3
      have R2 := show Hid _ from hbel.grown hgr3 hbel.size (fun k hk => by cases hk; exact Nat.le_refl _)
      clear hc0 hrow hrow3 hgr3 hbel e
      go_wp2
      go_roundw
      case rel => first | exact ⟨k + 1, by omega, by go_num, R1.out, R2.out⟩ | ((repeat apply Exists.intro); exact ⟨⟨k + 1, by omega, by go_num, R1.out, R2.out⟩, rfl⟩)
      case measure => simp [intOf]; omega
    · obtain rfl : k = zs.length := by omega
      have hrow' : Own w.heap.size wr w.heap.size zs.length zs := by unfold Own; simpa using hrow
      clear hrow
      go_wp2
      go_ret
      exact ⟨rfl, hrow', hbel⟩
end Go.Proofs.Qxb6617742a
