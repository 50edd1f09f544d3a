/-
  The walk of FnStringAcceptsQuotedText (function 4).
-/
import Derived.Test.Qxb6617742aQuote
namespace Go.Proofs.Qxb6617742a
open Go.RowKit
set_option linter.unusedVariables false

set_option maxHeartbeats 400000 in
theorem bytes10 (a b c : Option Addr) (n m k ca cb cc : Nat) (d : Int) (w : World) (ha : n ≤ maxLen) (hb : m ≤ maxLen) (hc : k ≤ maxLen) :
    Calls Try.prog 10 #[.slice a n ca, .slice b m cb, .slice c k cc, .int .i64 d] w fun e w' => (∃ r : Bool, e = .returned (.bool r)) ∧ w = w' := by
  unfold maxLen at ha hb hc
  go_enter Try.func10, Try.ntmps10
  go_wp2
  all_goals (go_ret; exact ⟨⟨_, rfl⟩, rfl⟩)

theorem zz_len (g n cap : Nat) (t : List Int) (d : Int) (i : Nat) (b : Bool) (p : Nat) (w : World) (hn : t.length = n) (ht : Text w g t) (hb : n ≤ 2000000) (hi : i < n) (hR : aut t 0 (i + 1) = (b, p)) :
    Calls Try.prog 7 #[.slice (some ⟨g, 0, none⟩) n cap, .int .i64 i, .int .i64 d] w fun e w' => e = .returned (.tuple #[.bool b, .int .i64 p, .int .i64 d]) ∧ Below w.heap.size w w' := by
  subst hn
  refine (zz_any g cap t d i (b, p) w ht hb hi hR).mono fun e w' ⟨he, m, hw⟩ => ?_
  subst hw
  exact ⟨he, below_drewN ((Below.refl _ _).alloc (Nat.le_refl _) _) _⟩

theorem clone_len (ad : Addr) (n cap : Nat) (zs : List Int) (w : World) (hl : zs.length = n) (hz : Bytes w (some ad) zs) (hn : n ≤ 2000000) :
    Calls Try.prog 6 #[.slice (some ad) n cap] w fun e w' => e = .returned (.slice (some ⟨w.heap.size, 0, none⟩) n n) ∧ Own w.heap.size w' w.heap.size n zs ∧ Below w.heap.size w w' := by
  subst hl
  exact clone_any ad cap zs w hz hn

theorem Text.part {w : World} {g : Nat} {t zs r : List Int} (h : Text w g t) (e : t = zs ++ r) : Bytes w (some ⟨g, 0, none⟩) zs := by
  subst e
  refine ⟨fun j => ?_, fun j hj => ⟨g, 0, rfl, h.1, ?_⟩⟩
  · by_cases hj : j < zs.length
    · have := h.2.2 j
      simpa [List.getD, List.getElem?_append_left hj] using this
    · simp [List.getD, show zs.length ≤ j by omega]
  · have := h.2.1 j (by simp; omega)
    rw [Nat.zero_add, this]
    simp [List.getD, List.getElem?_append_left hj]

/-- A clone, whatever was handed in. -/
theorem clone_gen (ao : Option Addr) (cap : Nat) (zs : List Int) (w : World) (hz : Bytes w ao zs) (hnil : ao = none → zs.length = 0 ∧ cap = 0) (hn : zs.length ≤ 2000000) :
    Calls Try.prog 6 #[.slice ao zs.length cap] w fun e w' => ∃ ao' cap', e = .returned (.slice ao' zs.length cap') ∧ Bytes w' ao' zs ∧ (ao' = none → zs.length = 0 ∧ cap' = 0) ∧ Below w.heap.size w w' := by
  cases ao with
  | none =>
    obtain ⟨h0, rfl⟩ := hnil rfl
    rw [h0]
    refine (clone_nil w).mono fun e w' ⟨he, hw⟩ => ?_
    subst hw
    exact ⟨none, 0, he, hz, fun _ => ⟨rfl, rfl⟩, Below.refl _ _⟩
  | some ad =>
    refine (clone_any ad cap zs w hz hn).mono fun e w' ⟨he, ho, hb⟩ => ?_
    exact ⟨_, _, he, ho.bytes hz.byte, (fun h => by cases h), hb⟩

/-- The cells of what is appended. -/
theorem Bytes.news {w : World} {ao : Option Addr} {zs : List Int} (h : Bytes w ao zs) : ∀ ad, ao = some ad → ∀ j u, (zs.map (Value.int .u8))[j]? = some u → w.cell? (ad.add j) = some u := by
  intro ad e j u hu
  have hj : j < zs.length := by
    have := (List.getElem?_eq_some_iff.1 hu).1
    simpa using this
  obtain ⟨b, off, e2, _, hc⟩ := h.cell j hj
  rw [e] at e2
  obtain rfl := Option.some.inj e2
  rw [Addr.add_lit, hc]
  have e3 : (zs.map (Value.int .u8))[j]? = some (.int .u8 (zs.getD j 0)) := by simp [List.getD, hj]
  rw [e3] at hu
  exact hu

theorem aut_quoted {P bs S : List Int} (hp : Passes bs) : aut (P ++ (34 :: bs ++ [34]) ++ S) 0 (P.length + 1) = (true, P.length + (bs.length + 1 + 1)) := by
  unfold aut
  have e : (P ++ (34 :: bs ++ [34]) ++ S).drop (P.length + 1) = bs ++ (34 :: S) := by
    rw [List.append_assoc, ← List.drop_drop, List.drop_left]
    simp
  rw [e, hp]
  rw [autL, if_pos stp_quote]
  congr 1
  omega

theorem aut_cut {P bs : List Int} (hp : Passes bs) : aut (P ++ 34 :: bs) 0 (P.length + 1) = (false, P.length + (bs.length + 1)) := by
  unfold aut
  have e : (P ++ 34 :: bs).drop (P.length + 1) = bs ++ [] := by
    rw [← List.drop_drop, List.drop_left]
    simp
  rw [e, hp]
  rw [autL]
  congr 1
  omega

theorem byte_of {l : List Int} (h : ∀ x ∈ l, 0 ≤ x ∧ x ≤ 255) : ∀ j, 0 ≤ l.getD j 0 ∧ l.getD j 0 ≤ 255 := by
  intro j
  by_cases hj : j < l.length
  · have : l.getD j 0 ∈ l := by simp [List.getD, hj]
    exact h _ this
  · simp [List.getD, show l.length ≤ j by omega]

theorem of_byte {l : List Int} (h : ∀ j, 0 ≤ l.getD j 0 ∧ l.getD j 0 ≤ 255) : ∀ x ∈ l, 0 ≤ x ∧ x ≤ 255 := by
  intro x hx
  obtain ⟨j, hj, rfl⟩ := List.getElem_of_mem hx
  have := h j
  simpa [List.getD, hj] using this

theorem quoted_byte {bs : List Int} (h : ∀ x ∈ bs, 0 ≤ x ∧ x ≤ 255) : ∀ x ∈ 34 :: bs ++ [34], 0 ≤ x ∧ x ≤ 255 := by
  intro x hx
  simp at hx
  rcases hx with rfl | hx | rfl
  · decide
  · exact h x hx
  · decide

set_option maxHeartbeats 2000000 in
set_option maxRecDepth 100000 in
theorem accept_any (a0 a1 a2 : Option Addr) (c0 c1 c2 : Nat) (P Y S : List Int) (d : Int) (w : World) (h0 : Bytes w a0 P) (h1 : Bytes w a1 Y) (h2 : Bytes w a2 S)
    (n0 : a0 = none → P.length = 0 ∧ c0 = 0) (n1 : a1 = none → Y.length = 0 ∧ c1 = 0) (n2 : a2 = none → S.length = 0 ∧ c2 = 0) (hsz : P.length + 6 * Y.length + 2 + S.length ≤ 1048576) :
    Calls Try.prog 4 #[.slice a0 P.length c0, .slice a1 Y.length c1, .slice a2 S.length c2, .int .i64 d] w fun e w' => e = .returned (.bool true) ∧ Below w.heap.size w w' := by
  obtain ⟨i0, hi, hz0, hz1, hz2⟩ := info_parts info5
  go_enter Try.func4, Try.ntmps4
  go_wp2_with (first | (go_at_call 10; refine (bytes10 a0 a1 a2 _ _ _ c0 c1 c2 d _ (by unfold maxLen; omega) (by unfold maxLen; omega) (by unfold maxLen; omega)).mono ?_; rintro e w' ⟨⟨r, rfl⟩, rfl⟩) | fail)
  · go_ret
    exact ⟨rfl, Below.refl _ _⟩
  · refine (clone_gen a0 c0 P _ h0 n0 (by omega)).mono ?_
    rintro e w1 ⟨b0, k0, rfl, hb0, m0, bel1⟩
    have H1 := show Hid _ from h1.later bel1
    have H2 := show Hid _ from h2.later bel1
    have N0 := show Hid _ from m0
    have N1 := show Hid _ from n1
    have N2 := show Hid _ from n2
    clear h0 h1 h2 m0 n0 n1 n2
    go_wp2_with fail
    refine (clone_gen a1 c1 Y _ H1.out N1.out (by omega)).mono ?_
    rintro e w2 ⟨b1, k1, rfl, hb1, m1, bel2⟩
    have B2 : Hid (Below w.heap.size w w2) := bel1.trans (bel2.mono bel1.size)
    have P2 := show Hid _ from hb0.later bel2
    have S2 := show Hid _ from H2.out.later bel2
    clear hb0 H1 H2 bel1 m1 N1
    go_wp2_with fail
    refine (clone_gen a2 c2 S _ S2.out N2.out (by omega)).mono ?_
    rintro e w3 ⟨b2, k2, rfl, hb2, m2, bel3⟩
    have B3 : Hid (Below w.heap.size w w3) := B2.out.trans (bel3.mono B2.out.size)
    have P3 := show Hid _ from P2.out.later bel3
    have Y3 := show Hid _ from hb1.later bel3
    have N2' := show Hid _ from m2
    clear hb1 bel2 B2 P2 S2 N2 m2
    go_wp2_with fail
    refine (quote_any b1 k1 Y _ Y3.out (by omega)).mono ?_
    rintro e w4 ⟨bs, rfl, hps, hbs, hbl, hown4, bel4⟩
    have B4 : Hid (Below w.heap.size w w4) := B3.out.trans (bel4.mono B3.out.size)
    have P4 := show Hid _ from P3.out.later bel4
    have S4 := show Hid _ from hb2.later bel4
    have hq : (34 :: bs ++ [34]).length = bs.length + 1 + 1 := by simp
    have Q4 : Hid (Bytes w4 (some ⟨w3.heap.size, 0, none⟩) (34 :: bs ++ [34])) := hown4.bytes (byte_of (quoted_byte hbs))
    have HP := show Hid _ from hps
    have HQ := show Hid _ from hq
    have HBY : Hid (∀ x ∈ P ++ (34 :: bs ++ [34]) ++ S, 0 ≤ x ∧ x ≤ 255) := by
      intro x hx
      rcases List.mem_append.1 hx with hx | hx
      · rcases List.mem_append.1 hx with hx | hx
        · exact of_byte P4.out.byte x hx
        · exact quoted_byte hbs x hx
      · exact of_byte S4.out.byte x hx
    clear hb2 bel3 B3 P3 Y3 hown4 bel4 hps hbs hq
    go_wp2_with (first
      | (at_make; refine wpList_make_own _ rfl _ _ 22 rfl w4.heap.size 5 i0 (.int .u8 0) 1 Try.underlying22 hi hz0 hz1 _ _ _ (P.length + (bs.length + 1 + 1) + S.length) rfl rfl (by omega) (by rw [hz2]; omega) (by unfold maxLen; omega) (Nat.le_refl _) ?_)
      | fail)
    intro w5 hrow5 hgr5
    have bel5 : Below w4.heap.size w4 w5 := (Below.refl _ _).grown hgr5 (Nat.le_refl _) (fun k hk => by cases hk)
    have L5 := show Hid _ from bel5
    clear hgr5 bel5
    go_wp2_with (first
      | (at_builtin; refine wpList_append_fits_any _ rfl _ _ 22 rfl w4.heap.size 5 i0 1 Try.underlying22 hi hz1 w4.heap.size 0 (P.length + (bs.length + 1 + 1) + S.length) _ rfl hrow5 b0 P.length k0 (P.map (Value.int .u8)) rfl (by simp) N0.out (P4.out.later L5.out).news (ints_oneCell _ _) (by omega) ?_)
      | fail)
    intro w6 hrow6 hgr6
    have L6 : Hid (Below w4.heap.size w4 w6) := L5.out.grown hgr6 L5.out.size (fun k hk => by cases hk; exact Nat.le_refl _)
    clear hgr6 hrow5 L5 N0 P4
    go_wp2_with (first
      | (at_builtin; refine wpList_append_fits_any _ rfl _ _ 22 rfl w4.heap.size 5 i0 1 Try.underlying22 hi hz1 w4.heap.size P.length (P.length + (bs.length + 1 + 1) + S.length) _ rfl hrow6 (some ⟨w3.heap.size, 0, none⟩) (bs.length + 1 + 1) (6 * Y.length + 2) ((34 :: bs ++ [34]).map (Value.int .u8)) rfl (by simp) (fun h => by cases h) (Q4.out.later L6.out).news (ints_oneCell _ _) (by omega) ?_)
      | fail)
    intro w7 hrow7 hgr7
    have L7 : Hid (Below w4.heap.size w4 w7) := L6.out.grown hgr7 L6.out.size (fun k hk => by cases hk; exact Nat.le_refl _)
    clear hgr7 hrow6 L6
    go_wp2_with (first
      | (at_builtin; refine wpList_append_fits_any _ rfl _ _ 22 rfl w4.heap.size 5 i0 1 Try.underlying22 hi hz1 w4.heap.size (P.length + (bs.length + 1 + 1)) (P.length + (bs.length + 1 + 1) + S.length) _ rfl hrow7 b2 S.length k2 (S.map (Value.int .u8)) rfl (by simp) N2'.out (S4.out.later L7.out).news (ints_oneCell _ _) (by omega) ?_)
      | fail)
    intro w8 hrow8 hgr8
    have L8 : Hid (Below w4.heap.size w4 w8) := L7.out.grown hgr8 L7.out.size (fun k hk => by cases hk; exact Nat.le_refl _)
    clear hgr8 hrow7 L7
    have hT : Hid (Own w4.heap.size w8 w4.heap.size (P.length + (bs.length + 1 + 1) + S.length) (P ++ (34 :: bs ++ [34]) ++ S)) := by
      show Own _ _ _ _ _
      unfold Own
      have e : (P ++ (34 :: bs ++ [34]) ++ S).length = P.length + (bs.length + 1 + 1) + S.length := by simp; omega
      rw [e]
      simpa using hrow8
    clear hrow8 Q4
    go_wp2_with fail
    refine (zz_len w4.heap.size _ _ (P ++ (34 :: bs ++ [34]) ++ S) d P.length true (P.length + (bs.length + 1 + 1)) _ (by simp; omega) (hT.out.text (byte_of HBY.out)) (by omega) (by omega) (aut_quoted HP.out)).mono ?_
    rintro e w9 ⟨rfl, bel9⟩
    have T9 : Hid (Own w4.heap.size w9 w4.heap.size (P.length + (bs.length + 1 + 1) + S.length) (P ++ (34 :: bs ++ [34]) ++ S)) := Own.later hT.out bel9
    have L9 : Hid (Below w4.heap.size w4 w9) := L8.out.trans (bel9.mono L8.out.size)
    clear hT L8 bel9
    go_wp2_with fail
    have C9 : Hid (Bytes w9 (some ⟨w4.heap.size, 0, none⟩) (P ++ 34 :: bs)) := (Own.text T9.out (byte_of HBY.out)).part (r := 34 :: S) (by simp)
    have hcl : (P ++ 34 :: bs).length = P.length + (bs.length + 1) := by simp
    have HCL := show Hid _ from hcl
    clear hcl T9
    refine (clone_len _ _ _ (P ++ 34 :: bs) _ HCL.out C9.out (by omega)).mono ?_
    rintro e w10 ⟨rfl, hown10, bel10⟩
    have O10 : Hid (Text w10 w9.heap.size (P ++ 34 :: bs)) := hown10.text C9.out.byte
    have L10 : Hid (Below w4.heap.size w4 w10) := L9.out.trans (bel10.mono L9.out.size)
    clear hown10 bel10 L9
    go_wp2_with fail
    refine (zz_len w9.heap.size _ _ (P ++ 34 :: bs) d P.length false (P.length + (bs.length + 1)) _ HCL.out O10.out (by omega) (by omega) (aut_cut HP.out)).mono ?_
    rintro e w11 ⟨rfl, bel11⟩
    have L11 : Hid (Below w.heap.size w w11) := B4.out.trans ((L10.out.trans (bel11.mono L10.out.size)).mono B4.out.size)
    clear bel11 L10
    go_wp2
    go_ret
    exact ⟨rfl, L11.out⟩

set_option maxHeartbeats 400000 in
/-- The lengths are above the law's own bound: true at once. -/
theorem accept_big (a0 a1 a2 : Option Addr) (c0 c1 c2 n m k : Nat) (d : Int) (w : World) (hn : n ≤ maxLen) (hm : m ≤ maxLen) (hk : k ≤ maxLen) (h : 1048576 < n + 6 * m + 2 + k) :
    Calls Try.prog 4 #[.slice a0 n c0, .slice a1 m c1, .slice a2 k c2, .int .i64 d] w fun e w' => e = .returned (.bool true) ∧ Below w.heap.size w w' := by
  by_cases hb : n ≤ 1048576 ∧ m ≤ 1048576 ∧ k ≤ 1048576
  · obtain ⟨h1, h2, h3⟩ := hb
    go_enter Try.func4, Try.ntmps4
    go_wp2_with (first | (go_at_call 10; refine (bytes10 a0 a1 a2 _ _ _ c0 c1 c2 d _ hn hm hk).mono ?_; rintro e w' ⟨⟨r, rfl⟩, rfl⟩) | fail)
    all_goals (go_ret; exact ⟨rfl, Below.refl _ _⟩)
  · clear h
    by_cases h1 : 1048576 < n
    · clear hb
      go_enter Try.func4, Try.ntmps4
      go_wp2_with (first | (go_at_call 10; refine (bytes10 a0 a1 a2 _ _ _ c0 c1 c2 d _ hn hm hk).mono ?_; rintro e w' ⟨⟨r, rfl⟩, rfl⟩) | fail)
      all_goals (go_ret; exact ⟨rfl, Below.refl _ _⟩)
    · by_cases h2 : 1048576 < m
      · clear hb
        go_enter Try.func4, Try.ntmps4
        go_wp2_with (first | (go_at_call 10; refine (bytes10 a0 a1 a2 _ _ _ c0 c1 c2 d _ hn hm hk).mono ?_; rintro e w' ⟨⟨r, rfl⟩, rfl⟩) | fail)
        all_goals (go_ret; exact ⟨rfl, Below.refl _ _⟩)
      · have h3 : 1048576 < k := by omega
        clear hb
        go_enter Try.func4, Try.ntmps4
        go_wp2_with (first | (go_at_call 10; refine (bytes10 a0 a1 a2 _ _ _ c0 c1 c2 d _ hn hm hk).mono ?_; rintro e w' ⟨⟨r, rfl⟩, rfl⟩) | fail)
        all_goals (go_ret; exact ⟨rfl, Below.refl _ _⟩)
end Go.Proofs.Qxb6617742a
