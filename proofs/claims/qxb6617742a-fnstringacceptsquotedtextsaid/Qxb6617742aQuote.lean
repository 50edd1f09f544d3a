/-
  The walks of zzLowerHex (function 14) and zzQuote (function 11).
-/
import Derived.Test.Qxb6617742aAids
import Derived.Maps.AppendAt
namespace Go.Proofs.Qxb6617742a
open Go.RowKit
set_option linter.unusedVariables false

/-- A row of bytes that the automaton reads from the body to the body. -/
def Passes (ps : List Int) : Prop := ∀ rest p, autL (ps ++ rest) 0 p = autL rest 0 (p + ps.length)

theorem Passes.nil : Passes [] := fun _ _ => rfl
theorem Passes.append {a b : List Int} (ha : Passes a) (hb : Passes b) : Passes (a ++ b) := by
  intro rest p
  rw [List.append_assoc, ha, hb, List.length_append, Nat.add_assoc]

theorem autL_on {c n : Int} {r : List Int} {s : Int} {p : Nat} (k : stp s c = n) (h2 : n ≠ -2) (h1 : n ≠ -1) : autL (c :: r) s p = autL r n (p + 1) := by
  rw [autL, if_neg (by rw [k]; exact h2), if_neg (by rw [k]; exact h1), k]

theorem passes_one {c : Int} (h : c ≠ 34) (k : ¬ c < 32) (e : c ≠ 92) : Passes [c] := by
  intro rest p
  exact autL_on (stp_plain h k e) (by decide) (by decide)

theorem passes_two {x : Int} (h : isShort x = true) : Passes [92, x] := by
  intro rest p
  show autL (92 :: x :: rest) 0 p = _
  rw [autL_on stp_esc (by decide) (by decide), autL_on (stp_short h) (by decide) (by decide)]
  rfl

theorem passes_six {a b c d : Int} (ha : isHex a = true) (hb : isHex b = true) (hc : isHex c = true) (hd : isHex d = true) : Passes [92, 117, a, b, c, d] := by
  intro rest p
  show autL (92 :: 117 :: a :: b :: c :: d :: rest) 0 p = _
  rw [autL_on stp_esc (by decide) (by decide), autL_on (n := due 0) stp_u (by decide) (by decide),
    autL_on (stp_hex (by decide) ha) (by decide) (by decide), autL_on (stp_hex (by decide) hb) (by decide) (by decide),
    autL_on (stp_hex (by decide) hc) (by decide) (by decide), autL_on (stp_hex (by decide) hd) (by decide) (by decide)]
  rfl

set_option maxHeartbeats 400000 in
theorem lower_any (n : Int) (w : World) (h0 : 0 ≤ n) (h1 : n ≤ 15) :
    Calls Try.prog 14 #[.int .u8 n] w fun e w' => (∃ h : Int, e = .returned (.int .u8 h) ∧ isHex h = true ∧ 0 ≤ h ∧ h ≤ 255) ∧ w = w' := by
  go_enter Try.func14, Try.ntmps14
  go_wp2
  · go_ret
    exact ⟨⟨_, rfl, by simp [isHex]; omega, by omega, by omega⟩, rfl⟩
  · go_ret
    exact ⟨⟨_, rfl, by simp [isHex]; omega, by omega, by omega⟩, rfl⟩

theorem cell_six_new (w : World) (a b c d e f : Value) (t : TypeId) : ∀ j u, [a, b, c, d, e, f][j]? = some u → (w.alloc (.cells #[a, b, c, d, e, f] t)).cell? ((⟨w.heap.size, 0, none⟩ : Addr).add j) = some u := by
  intro j u hj
  match j, hj with
  | 0, hj => simp at hj; subst hj; simp [Addr.add]
  | 1, hj => simp at hj; subst hj; simp [Addr.add]
  | 2, hj => simp at hj; subst hj; simp [Addr.add]
  | 3, hj => simp at hj; subst hj; simp [Addr.add]
  | 4, hj => simp at hj; subst hj; simp [Addr.add]
  | 5, hj => simp at hj; subst hj; simp [Addr.add]
  | j + 6, hj => simp at hj

theorem one_u8 (a : Int) : ∀ u ∈ [Value.int .u8 a], u.oneCell' = true := ints_oneCell .u8 [a]
theorem two_u8 (a b : Int) : ∀ u ∈ [Value.int .u8 a, .int .u8 b], u.oneCell' = true := ints_oneCell .u8 [a, b]
theorem six_u8 (a b c d e f : Int) : ∀ u ∈ [Value.int .u8 a, .int .u8 b, .int .u8 c, .int .u8 d, .int .u8 e, .int .u8 f], u.oneCell' = true := ints_oneCell .u8 [a, b, c, d, e, f]

/-- What has been written so far: the opening quote and a body that passes. -/
structure Out (B cap n : Nat) (w wr : World) (bs : List Int) : Prop where
  passes : Passes bs
  byte : ∀ x ∈ bs, 0 ≤ x ∧ x ≤ 255
  len : bs.length ≤ n
  row : wr.ownsRow B 5 1 (.slice (some ⟨B, 0, none⟩) (bs.length + 1) cap) (bs.length + 1) ((34 :: bs).map (Value.int .u8))
  bel : Below B w wr

theorem Out.step {B cap n : Nat} {w wr w1 : World} {bs ps : List Int} {o : Obj} (h : Out B cap n w wr bs) (hp : Passes ps) (hb : ∀ x ∈ ps, 0 ≤ x ∧ x ≤ 255) (hl : ps.length ≤ 6) (hB : B ≤ wr.heap.size)
    (hrow : w1.ownsRow B 5 1 (.slice (some ⟨B, 0, none⟩) (bs.length + 1 + ps.length) cap) (bs.length + 1 + ps.length) ((34 :: bs).map (Value.int .u8) ++ ps.map (Value.int .u8))) (hg : (wr.alloc o).grownBy w1 (some B)) : Out B cap (n + 6) w w1 (bs ++ ps) := by
  refine ⟨h.passes.append hp, ?_, ?_, ?_, (h.bel.alloc hB _).grown hg (by simp; omega) (fun k hk => by cases hk; exact Nat.le_refl _)⟩
  · intro x hx
    rcases List.mem_append.1 hx with hx | hx
    · exact h.byte x hx
    · exact hb x hx
  · have := h.len
    rw [List.length_append]; omega
  · have e : (bs ++ ps).length + 1 = bs.length + 1 + ps.length := by rw [List.length_append]; omega
    rw [e]
    simpa using hrow

theorem Out.one {B cap n : Nat} {w wr w1 : World} {bs : List Int} {o : Obj} {x : Int} (h : Out B cap n w wr bs) (h1 : (x == 34) = false) (h2 : 32 ≤ x) (h3 : (x == 92) = false) (hx : 0 ≤ x ∧ x ≤ 255) (hB : B ≤ wr.heap.size)
    (hrow : w1.ownsRow B 5 1 (.slice (some ⟨B, 0, none⟩) (bs.length + 1 + 1) cap) (bs.length + 1 + 1) ((34 :: bs).map (Value.int .u8) ++ [.int .u8 x])) (hg : (wr.alloc o).grownBy w1 (some B)) :
    ∃ bs' : List Int, bs'.length + 1 = bs.length + 1 + 1 ∧ Out B cap (n + 6) w w1 bs' :=
  ⟨bs ++ [x], by simp, h.step (ps := [x]) (passes_one (by simpa using h1) (by omega) (by simpa using h3)) (by simpa using hx) (by simp) hB hrow hg⟩

theorem Out.two {B cap n : Nat} {w wr w1 : World} {bs : List Int} {o : Obj} {x : Int} (h : Out B cap n w wr bs) (hs : isShort x = true) (hx : 0 ≤ x ∧ x ≤ 255) (hB : B ≤ wr.heap.size)
    (hrow : w1.ownsRow B 5 1 (.slice (some ⟨B, 0, none⟩) (bs.length + 1 + 2) cap) (bs.length + 1 + 2) ((34 :: bs).map (Value.int .u8) ++ [.int .u8 92, .int .u8 x])) (hg : (wr.alloc o).grownBy w1 (some B)) :
    ∃ bs' : List Int, bs'.length + 1 = bs.length + 1 + 2 ∧ Out B cap (n + 6) w w1 bs' :=
  ⟨bs ++ [92, x], by simp, h.step (ps := [92, x]) (passes_two hs) (by simpa using hx) (by simp) hB hrow hg⟩

theorem Out.six {B cap n : Nat} {w wr w1 : World} {bs : List Int} {o : Obj} {x y : Int} (h : Out B cap n w wr bs) (hx : isHex x = true) (hy : isHex y = true) (hx0 : 0 ≤ x) (hx1 : x ≤ 255) (hy0 : 0 ≤ y) (hy1 : y ≤ 255) (hB : B ≤ wr.heap.size)
    (hrow : w1.ownsRow B 5 1 (.slice (some ⟨B, 0, none⟩) (bs.length + 1 + 6) cap) (bs.length + 1 + 6) ((34 :: bs).map (Value.int .u8) ++ [.int .u8 92, .int .u8 117, .int .u8 48, .int .u8 48, .int .u8 x, .int .u8 y])) (hg : (wr.alloc o).grownBy w1 (some B)) :
    ∃ bs' : List Int, bs'.length + 1 = bs.length + 1 + 6 ∧ Out B cap (n + 6) w w1 bs' :=
  ⟨bs ++ [92, 117, 48, 48, x, y], by simp, h.step (ps := [92, 117, 48, 48, x, y]) (passes_six (by decide) (by decide) hx hy) (by simp; omega) (by simp) hB hrow hg⟩

set_option maxHeartbeats 2000000 in
set_option maxRecDepth 100000 in
theorem quote_any (ao : Option Addr) (cap : Nat) (zs : List Int) (w : World) (hz : Bytes w ao zs) (hn : zs.length ≤ 2000000) :
    Calls Try.prog 11 #[.slice ao zs.length cap] w fun e w' => ∃ bs : List Int, e = .returned (.slice (some ⟨w.heap.size, 0, none⟩) (bs.length + 1 + 1) (6 * zs.length + 2)) ∧ Passes bs ∧ (∀ x ∈ bs, 0 ≤ x ∧ x ≤ 255) ∧ bs.length ≤ 6 * zs.length ∧
      Own w.heap.size w' w.heap.size (6 * zs.length + 2) (34 :: bs ++ [34]) ∧ Below w.heap.size w w' := by
  obtain ⟨i0, hi, hz0, hz1, hz2⟩ := info_parts info5
  go_enter Try.func11, Try.ntmps11
  go_wp2_with (first
    | (at_make; refine wpList_make_own _ rfl _ _ 22 rfl w.heap.size 5 i0 (.int .u8 0) 1 Try.underlying22 hi hz0 hz1 _ _ _ (6 * zs.length + 2) rfl rfl (by omega) (by rw [hz2]; omega) (by unfold maxLen; omega) (Nat.le_refl _) ?_)
    | fail)
  intro w0 hrow0 hgr0
  have hbel0 : Below w.heap.size w w0 := (Below.refl _ _).grown hgr0 (Nat.le_refl _) (fun k hk => by cases hk)
  clear hgr0
  go_wp2_with (first
    | (at_builtin; refine wpList_append_fits _ rfl _ _ 22 rfl w.heap.size 5 i0 1 Try.underlying22 hi hz1 w.heap.size 0 (6 * zs.length + 2) _ rfl (hrow0.alloc _) ⟨w0.heap.size, 0, none⟩ 1 1 [.int .u8 34] rfl rfl (cell_one_new _ _ _) (one_u8 _) (by omega) ?_)
    | fail)
  intro w1 hrow1 hgr1
  have hout : Out w.heap.size (6 * zs.length + 2) 0 w w1 [] := ⟨Passes.nil, by simp, Nat.le_refl _, by simpa using hrow1, (hbel0.alloc hbel0.size _).grown hgr1 (Nat.le_trans hbel0.size (by simp)) (fun k hk => by cases hk; exact Nat.le_refl _)⟩
  clear hrow1 hgr1 hrow0 hbel0
  go_wp2
  go_loopw [3, 4, 5] (fun out i _ wr => ∃ (k : Nat) (bs : List Int), k ≤ zs.length ∧ i = .int .i64 k ∧ out = .slice (some ⟨w.heap.size, 0, none⟩) (bs.length + 1) (6 * zs.length + 2) ∧ Out w.heap.size (6 * zs.length + 2) (6 * k) w wr bs)
    (fun _ i _ _ => zs.length - (intOf i).toNat)
  case atStart => exact ⟨0, [], Nat.zero_le _, rfl, rfl, hout⟩
  case round =>
    obtain ⟨k, bs, hk, rfl, rfl, ho⟩ := hrel
    clear hout
    have hlen := ho.len
    by_cases hlt : k < zs.length
    · obtain ⟨b, off, rfl, hb, hc0⟩ := hz.cell k hlt
      obtain ⟨c, hcc⟩ : ∃ c, c = zs.getD k 0 := ⟨_, rfl⟩
      have hc : wr.cell? ⟨b, off + k, none⟩ = some (.int .u8 c) := by rw [ho.bel.cell hb, hc0, hcc]
      have hb0 := hz.byte k
      rw [← hcc] at hb0
      have HO := show Hid _ from ho
      clear hcc hc0 ho
      have hBw := HO.out.bel.size
      go_wp2_with (first
        | (at_builtin; refine wpList_append_fits _ rfl _ _ 22 rfl w.heap.size 5 i0 1 Try.underlying22 hi hz1 w.heap.size (bs.length + 1) (6 * zs.length + 2) _ rfl (HO.out.row.alloc _) ⟨wr.heap.size, 0, none⟩ 2 2 _ rfl (by rfl) (cell_two_new _ _ _ _) (two_u8 _ _) (by omega) ?_; intro w2 hrow2 hgr2)
        | (at_builtin; refine wpList_append_fits _ rfl _ _ 22 rfl w.heap.size 5 i0 1 Try.underlying22 hi hz1 w.heap.size (bs.length + 1) (6 * zs.length + 2) _ rfl (HO.out.row.alloc _) ⟨wr.heap.size, 0, none⟩ 1 1 _ rfl (by rfl) (cell_one_new _ _ _) (one_u8 _) (by omega) ?_; intro w2 hrow2 hgr2)
        | (at_builtin; refine wpList_append_fits _ rfl _ _ 22 rfl w.heap.size 5 i0 1 Try.underlying22 hi hz1 w.heap.size (bs.length + 1) (6 * zs.length + 2) _ rfl (HO.out.row.alloc _) ⟨wr.heap.size, 0, none⟩ 6 6 _ rfl (by rfl) (cell_six_new _ _ _ _ _ _ _ _) (six_u8 _ _ _ _ _ _) (by omega) ?_; intro w2 hrow2 hgr2)
        | (go_at_call 14; refine (lower_any _ _ (by omega) (by omega)).mono ?_; rintro e w' ⟨⟨h, rfl, hh, hh0, hh1⟩, rfl⟩)
        | fail)
      · obtain ⟨bs', hl, hO⟩ := Out.two HO.out (by decide) (by decide) hBw hrow2 hgr2
        go_roundw
        case rel => first | exact ⟨k + 1, bs', by omega, by go_num, by rw [hl], hO⟩ | ((repeat apply Exists.intro); exact ⟨⟨k + 1, bs', by omega, by go_num, by rw [hl], hO⟩, rfl⟩)
        case measure => simp [intOf]; omega
      · obtain ⟨bs', hl, hO⟩ := Out.two HO.out (by decide) (by decide) hBw hrow2 hgr2
        go_roundw
        case rel => first | exact ⟨k + 1, bs', by omega, by go_num, by rw [hl], hO⟩ | ((repeat apply Exists.intro); exact ⟨⟨k + 1, bs', by omega, by go_num, by rw [hl], hO⟩, rfl⟩)
        case measure => simp [intOf]; omega
      · obtain ⟨bs', hl, hO⟩ := Out.two HO.out (by decide) (by decide) hBw hrow2 hgr2
        go_roundw
        case rel => first | exact ⟨k + 1, bs', by omega, by go_num, by rw [hl], hO⟩ | ((repeat apply Exists.intro); exact ⟨⟨k + 1, bs', by omega, by go_num, by rw [hl], hO⟩, rfl⟩)
        case measure => simp [intOf]; omega
      · obtain ⟨bs', hl, hO⟩ := Out.two HO.out (by decide) (by decide) hBw hrow2 hgr2
        go_roundw
        case rel => first | exact ⟨k + 1, bs', by omega, by go_num, by rw [hl], hO⟩ | ((repeat apply Exists.intro); exact ⟨⟨k + 1, bs', by omega, by go_num, by rw [hl], hO⟩, rfl⟩)
        case measure => simp [intOf]; omega
      · obtain ⟨bs', hl, hO⟩ := Out.two HO.out (by decide) (by decide) hBw hrow2 hgr2
        go_roundw
        case rel => first | exact ⟨k + 1, bs', by omega, by go_num, by rw [hl], hO⟩ | ((repeat apply Exists.intro); exact ⟨⟨k + 1, bs', by omega, by go_num, by rw [hl], hO⟩, rfl⟩)
        case measure => simp [intOf]; omega
      · obtain ⟨bs', hl, hO⟩ := Out.two HO.out (by decide) (by decide) hBw hrow2 hgr2
        go_roundw
        case rel => first | exact ⟨k + 1, bs', by omega, by go_num, by rw [hl], hO⟩ | ((repeat apply Exists.intro); exact ⟨⟨k + 1, bs', by omega, by go_num, by rw [hl], hO⟩, rfl⟩)
        case measure => simp [intOf]; omega
      · obtain ⟨bs', hl, hO⟩ := Out.two HO.out (by decide) (by decide) hBw hrow2 hgr2
        go_roundw
        case rel => first | exact ⟨k + 1, bs', by omega, by go_num, by rw [hl], hO⟩ | ((repeat apply Exists.intro); exact ⟨⟨k + 1, bs', by omega, by go_num, by rw [hl], hO⟩, rfl⟩)
        case measure => simp [intOf]; omega
      · obtain ⟨bs', hl, hO⟩ := Out.two HO.out (by decide) (by decide) hBw hrow2 hgr2
        go_roundw
        case rel => first | exact ⟨k + 1, bs', by omega, by go_num, by rw [hl], hO⟩ | ((repeat apply Exists.intro); exact ⟨⟨k + 1, bs', by omega, by go_num, by rw [hl], hO⟩, rfl⟩)
        case measure => simp [intOf]; omega
      · obtain ⟨bs', hl, hO⟩ := Out.six HO.out (by assumption) (by assumption) (by assumption) (by assumption) (by assumption) (by assumption) hBw hrow2 hgr2
        go_roundw
        case rel => first | exact ⟨k + 1, bs', by omega, by go_num, by rw [hl], hO⟩ | ((repeat apply Exists.intro); exact ⟨⟨k + 1, bs', by omega, by go_num, by rw [hl], hO⟩, rfl⟩)
        case measure => simp [intOf]; omega
      · obtain ⟨bs', hl, hO⟩ := Out.six HO.out (by decide) (by decide) (by decide) (by decide) (by decide) (by decide) hBw hrow2 hgr2
        go_roundw
        case rel => first | exact ⟨k + 1, bs', by omega, by go_num, by rw [hl], hO⟩ | ((repeat apply Exists.intro); exact ⟨⟨k + 1, bs', by omega, by go_num, by rw [hl], hO⟩, rfl⟩)
        case measure => simp [intOf]; omega
      · obtain ⟨bs', hl, hO⟩ := Out.one HO.out (by assumption) (by assumption) (by assumption) hb0 hBw hrow2 hgr2
        go_roundw
        case rel => first | exact ⟨k + 1, bs', by omega, by go_num, by rw [hl], hO⟩ | ((repeat apply Exists.intro); exact ⟨⟨k + 1, bs', by omega, by go_num, by rw [hl], hO⟩, rfl⟩)
        case measure => simp [intOf]; omega
    · obtain rfl : k = zs.length := by omega
      have HO := show Hid _ from ho
      have hBw := ho.bel.size
      clear ho
      go_wp2_with (first
        | (at_builtin; refine wpList_append_fits _ rfl _ _ 22 rfl w.heap.size 5 i0 1 Try.underlying22 hi hz1 w.heap.size (bs.length + 1) (6 * zs.length + 2) _ rfl (HO.out.row.alloc _) ⟨wr.heap.size, 0, none⟩ 1 1 [.int .u8 34] rfl rfl (cell_one_new _ _ _) (one_u8 _) (by omega) ?_)
        | fail)
      intro w2 hrow2 hgr2
      go_wp2
      go_ret
      refine ⟨bs, rfl, HO.out.passes, HO.out.byte, HO.out.len, ?_, (HO.out.bel.alloc hBw _).grown hgr2 (by simp; omega) (fun k hk => by cases hk; exact Nat.le_refl _)⟩
      unfold Own
      simpa using hrow2
end Go.Proofs.Qxb6617742a
