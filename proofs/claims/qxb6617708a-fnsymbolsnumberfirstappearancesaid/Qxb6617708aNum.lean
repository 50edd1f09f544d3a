/-
  The walk of (*symbols).number (function 6).
-/
import Derived.Test.Qxb6617708aSym
import Derived.Maps.AppendAt
import Derived.Maps.OwnSet
import Derived.Deep.QuietTactic
import Derived.BigQuiet
namespace Go.Proofs.Qxb6617708a
open Go.RowKit Go.Maps
set_option linter.unusedVariables false

theorem law : Keyed Try.prog 9 := string_keyed Try.underlying9
theorem zero3 (w : World) : (zeroValue 3).run Try.prog w = .ok (.int .i64 0) w := by kernel_rfl
theorem info9 : (Try.prog.info? 9).map (fun i => (i.zero, i.size, i.bytes)) = some (some (.string ByteArray.empty), 1, 16) := by kernel_rfl

theorem keyOf_key {s : ByteArray} (hs : s.size ≤ maxLen) : keyOf Try.prog 9 (.string s) = some (key s) := WideMaps.keyOf_string_mk Try.underlying9 hs

set_option maxHeartbeats 400000 in
/-- The symbol is there. -/
theorem number_there (p b n g len cap k : Nat) (D : DataW Unit) (s : ByteArray) (w : World) (hs : s.size ≤ maxLen)
    (c0 : w.cell? ⟨p, 0, none⟩ = some (.map (some b))) (c1 : w.cell? ⟨p, 1, none⟩ = some (.slice (some ⟨g, 0, none⟩) len cap))
    (hown : w.ownsMap Try.prog 9 (plainElem Try.prog 3) b n D) (hh : Maps.has D (key s) = true) (hat : Hid (D.atKey (key s) (.lit (.int .i64 0)) = .lit (.int .i64 k)))
    (hk : k < len) (hkb : k ≤ 10000) (hc : w.cell? ⟨g, k, none⟩ = some (.string s)) :
    Calls Try.prog 6 #[.pointer (some ⟨p, 0, none⟩), .string s] w fun e w' => e = .returned (.tuple #[.int .i64 k, .string s]) ∧ ∃ m, w' = w.drewN m := by
  have hkey := keyOf_key hs
  go_enter Try.func6, Try.ntmps6
  go_wp2_with (first
    | (at_lookup; refine wpList_lookup_own_ok_int _ rfl _ _ 22 rfl 9 3 .i64 law Try.underlying22 Try.underlying3 (zero3 _) b n D rfl hown _ _ rfl hkey ?_; intro c hatc hwc)
    | go_in)
  obtain rfl : c = (k : Int) := by
    have h := hat.out
    rw [hatc] at h
    simpa using h
  clear hatc hwc
  go_quiet (fail)
  go_wp2
  go_ret2
  exact ⟨rfl, _, rfl⟩

theorem ownsRow_set {w : World} {base : Nat} {e : TypeId} {size : Nat} {v : Value} {n : Nat} {xs : List Value} (h : w.ownsRow base e size v n xs) {a : Addr} (ha : v.ownBlock ≠ some a.block) (u : Value) : (w.setCell a u).ownsRow base e size v n xs := by
  obtain ⟨h1, h2⟩ := h
  refine ⟨h1, ?_⟩
  rcases h2 with h2 | ⟨g, cap, cur, hv, hg, hh, r⟩
  · exact Or.inl h2
  · refine Or.inr ⟨g, cap, cur, hv, hg, ?_, r⟩
    rw [Below.heap_setCell _ _ _ _ (fun e => ha (by rw [hv, ← e]; rfl))]
    exact hh

theorem ownsRow_get {w : World} {base : Nat} {e : TypeId} {g n cap : Nat} {xs : List Value} (h : w.ownsRow base e 1 (.slice (some ⟨g, 0, none⟩) n cap) n xs) {j : Nat} {u : Value} (hu : xs[j]? = some u) : w.cell? ⟨g, j, none⟩ = some u := by
  have := h.cells (g := g) rfl j u hu
  rw [Addr.add_lit, Nat.zero_add] at this
  exact this

theorem map_ne_cell {w : World} {b n p o : Nat} {D : DataW Unit} {v : Value} (hown : w.ownsMap Try.prog 9 (plainElem Try.prog 3) b n D) (hc : w.cell? ⟨p, o, none⟩ = some v) : p ≠ b := by
  intro e
  subst e
  obtain ⟨es, clock, hb, _⟩ := hown
  simp [World.cell?, hb] at hc

theorem map_ne_row {w : World} {b n base m : Nat} {D : DataW Unit} {e : TypeId} {size : Nat} {v : Value} {xs : List Value} (hown : w.ownsMap Try.prog 9 (plainElem Try.prog 3) b n D) (hrow : w.ownsRow base e size v m xs) : v.ownBlock ≠ some b := by
  intro hv
  obtain ⟨es, clock, hb, _⟩ := hown
  rcases hrow.2 with ⟨rfl, _⟩ | ⟨g, cap, cur, rfl, _, hg, _⟩
  · simp [Value.ownBlock] at hv
  · simp [Value.ownBlock] at hv
    subst hv
    rw [hb] at hg
    cases hg

/-- Behind what the symbol's numbering leaves. -/
def After (base p b n len : Nat) (xs : List Value) (D : DataW Unit) (s : ByteArray) (w w' : World) : Prop :=
  ∃ v', w'.cell? ⟨p, 0, none⟩ = some (.map (some b)) ∧ w'.cell? ⟨p, 1, none⟩ = some v' ∧ w'.ownsRow base 9 1 v' (len + 1) (xs ++ [.string s]) ∧
    w'.ownsMap Try.prog 9 (plainElem Try.prog 3) b (n + 1) (D.put (key s) (.lit (.int .i64 len))) ∧ Below base w w' ∧ v'.ownBlock ≠ some p

set_option maxHeartbeats 800000 in
/-- The symbol is not there; there is a map. -/
theorem number_new (base p b n len cap : Nat) (ao : Option Addr) (xs : List Value) (D : DataW Unit) (s : ByteArray) (w : World) (hs : s.size ≤ maxLen)
    (c0 : w.cell? ⟨p, 0, none⟩ = some (.map (some b))) (c1 : w.cell? ⟨p, 1, none⟩ = some (.slice ao len cap)) (f0 : w.frozen? ⟨p, 0, none⟩ = false) (f1 : w.frozen? ⟨p, 1, none⟩ = false)
    (hrow : w.ownsRow base 9 1 (.slice ao len cap) len xs) (hpn : (Value.slice ao len cap).ownBlock ≠ some p) (hbase : base ≤ w.heap.size) (hb : base ≤ b) (hp : base ≤ p)
    (hown : w.ownsMap Try.prog 9 (plainElem Try.prog 3) b n D) (hh : Maps.has D (key s) = false)
    (hlen : len ≤ 10000) (hn : n ≤ 10000) :
    Calls Try.prog 6 #[.pointer (some ⟨p, 0, none⟩), .string s] w fun e w' => e = .returned (.tuple #[.int .i64 len, .string s]) ∧ After base p b n len xs D s w w' := by
  have hkey := keyOf_key hs
  have hen := fun w r => run_eql_map_nil (P := Try.prog) w 22 9 3 r Try.underlying22
  obtain ⟨i0, hi, hz0, hz1, hz2⟩ := info_parts info9
  go_enter Try.func6, Try.ntmps6
  go_wp2_with (first
    | (at_lookup; refine wpList_lookup_own_ok_int _ rfl _ _ 22 rfl 9 3 .i64 law Try.underlying22 Try.underlying3 (zero3 _) b n D rfl hown _ _ rfl hkey ?_; intro c hatc hwc)
    | (at_mapUpdate; refine wpList_mapUpdate_own _ rfl _ _ _ 22 rfl 9 3 law Try.underlying22 _ b n D rfl hown (by unfold maxLen; omega) _ _ _ rfl rfl hkey _ [] (plainElem_int Try.underlying3 (WalkArith.wf_i64 (by omega))) ?_)
    | go_in)
  intro w1 hown1 hgrow1
  have hpb := map_ne_cell hown c0
  have d0 := hgrow1.cell c0 (by simpa using hpb)
  have d1 := hgrow1.cell c1 (by simpa using hpb)
  have hpl := World.block_lt_of_cell? w _ c0
  have e0 : w1.frozen? ⟨p, 0, none⟩ = false := (World.frozen?_of_block (w := w) (hgrow1.block p hpl (by simpa using hpb))).trans f0
  have e1 : w1.frozen? ⟨p, 1, none⟩ = false := (World.frozen?_of_block (w := w) (hgrow1.block p hpl (by simpa using hpb))).trans f1
  have hrow1 := hrow.kept hgrow1 (.inr (map_ne_row hown hrow))
  have hsz1 := hgrow1.size
  have hbel1 : Below base w w1 := (Below.refl _ _).grown hgrow1 hbase (fun k hk => by cases hk; exact hb)
  clear hatc hwc c0 c1 f0 f1 hgrow1
  simp only at hpl
  go_wp2_with (first
    | (at_builtin; refine wpList_append_own_at _ rfl _ _ 23 rfl base 9 i0 (.string ByteArray.empty) 1 16 Try.underlying23 hi hz0 hz1 hz2 rfl (by decide) _ _ _ rfl (hrow1.alloc _) ⟨w1.heap.size, 0, none⟩ 1 1 [.string s] rfl rfl (cell_one_new _ _ _) ?c2 ?b1 ?b2 ?b3 ?next)
    | go_in)
  case c2 => intro u hu; simp at hu; subst hu; rfl
  case b1 => unfold maxLen; omega
  case b2 => omega
  case b3 => simp; omega
  case next =>
    intro v' w2 hrow2 hgrow2 hnil hloc
    have hvp : v'.ownBlock ≠ some p := by
      rcases hloc with h | h
      · rw [h]; exact hpn
      · rw [h]; simp; omega
    have hgr : w1.grownBy w2 (Value.slice ao len cap).ownBlock := (World.grownBy_alloc w1 _ _).trans hgrow2
    have hp1 : p < w1.heap.size := by omega
    have g0 := hgr.cell d0 (fun e => hpn e.symm)
    have g1 := hgr.cell d1 (fun e => hpn e.symm)
    have k0 : w2.frozen? ⟨p, 0, none⟩ = false := (World.frozen?_of_block (w := w1) (hgr.block p hp1 (fun e => hpn e.symm))).trans e0
    have k1 : w2.frozen? ⟨p, 1, none⟩ = false := (World.frozen?_of_block (w := w1) (hgr.block p hp1 (fun e => hpn e.symm))).trans e1
    have hown2 := hown1.kept hgr (fun e => map_ne_row hown1 hrow1 e.symm)
    have hbel2 : Below base w w2 := hbel1.grown hgr (by omega) (fun k hk => ((hrow1.lt k) hk).1)
    obtain ⟨g, cap', hv⟩ : ∃ g cap', v' = .slice (some ⟨g, 0, none⟩) (len + 1) cap' := by
      rcases hrow2.2 with ⟨_, h⟩ | ⟨g, cap', _, h, _⟩
      · omega
      · exact ⟨g, cap', h⟩
    have hrow3 := hrow2
    rw [hv] at hrow3 hvp ⊢
    have hgp : g ≠ p := by simpa [Value.ownBlock] using hvp
    have hxl : xs.length = len := by simpa using hrow.1
    have hlast : w2.cell? ⟨g, len, none⟩ = some (.string s) := ownsRow_get hrow3 (by rw [← hxl]; simp)
    have hrow4 := ownsRow_set hrow3 (a := ⟨p, 1, none⟩) hvp (.slice (some ⟨g, 0, none⟩) (len + 1) cap')
    have hown4 := hown2.setCell (a := ⟨p, 1, none⟩) (fun e => hpb e.symm) (.slice (some ⟨g, 0, none⟩) (len + 1) cap')
    have hbel4 := hbel2.setCell (p := ⟨p, 1, none⟩) hp (.slice (some ⟨g, 0, none⟩) (len + 1) cap')
    have HV : Hid ((Value.slice (some ⟨g, 0, none⟩) (len + 1) cap').ownBlock ≠ some p) := hvp
    have HR : Hid _ := hrow4
    have HO : Hid _ := hown4
    have HB : Hid _ := hbel4
    clear hnil hloc hgrow2 hrow2 hrow3 hgr hv d0 d1 e0 e1 hrow4 hown4 hbel4 hvp hown2 hbel2 hrow1 hown1 hown hrow hbel1
    go_wp2
    go_quiet (fail)
    go_wp2
    go_ret2
    refine ⟨rfl, .slice (some ⟨g, 0, none⟩) (len + 1) cap', ?_, ?_, HR.out, HO.out, below_drewN HB.out _, HV.out⟩
    · go_simp
    · go_simp

set_option maxHeartbeats 800000 in
/-- There is no map yet, and no name. -/
theorem number_first (base p cap : Nat) (ao : Option Addr) (s : ByteArray) (w : World) (hs : s.size ≤ maxLen)
    (c0 : w.cell? ⟨p, 0, none⟩ = some (.map none)) (c1 : w.cell? ⟨p, 1, none⟩ = some (.slice ao 0 cap)) (f0 : w.frozen? ⟨p, 0, none⟩ = false) (f1 : w.frozen? ⟨p, 1, none⟩ = false)
    (hrow : w.ownsRow base 9 1 (.slice ao 0 cap) 0 []) (hpn : (Value.slice ao 0 cap).ownBlock ≠ some p) (hbase : base ≤ w.heap.size) (hp : base ≤ p) :
    Calls Try.prog 6 #[.pointer (some ⟨p, 0, none⟩), .string s] w fun e w' => e = .returned (.tuple #[.int .i64 0, .string s]) ∧ After base p w.heap.size 0 0 [] (.map []) s w w' := by
  have hkey := keyOf_key hs
  have hen := fun w r => run_eql_map_nil (P := Try.prog) w 22 9 3 r Try.underlying22
  have hrun := fun w => look_nil (w := w) true law Try.underlying22 (zero3 _) hkey
  have hmm := @run_makeMap Try.prog
  obtain ⟨i0, hi, hz0, hz1, hz2⟩ := info_parts info9
  have hpl := World.block_lt_of_cell? w _ c0
  simp only at hpl
  obtain ⟨W, hW⟩ : ∃ W, W = (w.setCell ⟨p, 0, none⟩ (.map (some w.heap.size))).alloc (.map #[] 0) := ⟨_, rfl⟩
  have hown0 : W.ownsMap Try.prog 9 (plainElem (H := Unit) Try.prog 3) w.heap.size 0 (.map []) := by
    rw [hW]
    have := World.ownsMap_made (w.setCell ⟨p, 0, none⟩ (.map (some w.heap.size))) Try.prog 9 (plainElem (H := Unit) Try.prog 3)
    simpa [World.setCell] using this
  have hrow0 : W.ownsRow base 9 1 (.slice ao 0 cap) 0 [] := by rw [hW]; exact (ownsRow_set hrow hpn _).alloc _
  have hbel0 : Below base w W := by rw [hW]; exact ((Below.refl _ _).setCell hp _).alloc (by simpa [World.setCell] using hbase) _
  have q0 : W.cell? ⟨p, 0, none⟩ = some (.map (some w.heap.size)) := by rw [hW]; go_simp
  have q1 : W.cell? ⟨p, 1, none⟩ = some (.slice ao 0 cap) := by rw [hW]; go_simp
  have r0 : W.frozen? ⟨p, 0, none⟩ = false := by rw [hW]; go_simp
  have r1 : W.frozen? ⟨p, 1, none⟩ = false := by rw [hW]; go_simp
  have HW : Hid (W = (w.setCell ⟨p, 0, none⟩ (.map (some w.heap.size))).alloc (.map #[] 0)) := hW
  have HO0 : Hid (W.ownsMap Try.prog 9 (plainElem (H := Unit) Try.prog 3) w.heap.size 0 (.map [])) := hown0
  clear hW hown0
  go_enter Try.func6, Try.ntmps6
  go_wp2_with (first
    | (at_mapUpdate; refine wpList_mapUpdate_own _ rfl _ _ _ 22 rfl 9 3 law Try.underlying22 (plainElem (H := Unit) Try.prog 3) w.heap.size 0 (.map []) rfl ?hown (by unfold maxLen; omega) _ _ _ rfl rfl hkey (.lit (.int .i64 0)) [] ?hval ?next0)
    | go_in)
  case hown => exact HW.out ▸ HO0.out
  case hval => exact plainElem_int Try.underlying3 (by decide)
  rw [← HW.out]
  intro w1 hown1 hgrow1
  have hpb := map_ne_cell HO0.out q0
  have d0 := hgrow1.cell q0 (by simpa using hpb)
  have d1 := hgrow1.cell q1 (by simpa using hpb)
  have hplW := World.block_lt_of_cell? W _ q0
  have e0 : w1.frozen? ⟨p, 0, none⟩ = false := (World.frozen?_of_block (w := W) (hgrow1.block p hplW (by simpa using hpb))).trans r0
  have e1 : w1.frozen? ⟨p, 1, none⟩ = false := (World.frozen?_of_block (w := W) (hgrow1.block p hplW (by simpa using hpb))).trans r1
  have hrow1 := hrow0.kept hgrow1 (.inr (map_ne_row HO0.out hrow0))
  have hsz1 := hgrow1.size
  have hbel1 : Below base w w1 := hbel0.grown hgrow1 (Nat.le_trans hbase hbel0.size) (fun k hk => by cases hk; exact hbase)
  have hszW := hbel0.size
  clear c0 c1 f0 f1 q0 q1 r0 r1 hgrow1
  simp only at hplW
  go_wp2_with (first
    | (at_builtin; refine wpList_append_own_at _ rfl _ _ 23 rfl base 9 i0 (.string ByteArray.empty) 1 16 Try.underlying23 hi hz0 hz1 hz2 rfl (by decide) _ _ _ rfl (hrow1.alloc _) ⟨w1.heap.size, 0, none⟩ 1 1 [.string s] rfl rfl (cell_one_new _ _ _) ?c2 ?b1 ?b2 ?b3 ?next)
    | go_in)
  case c2 => intro u hu; simp at hu; subst hu; rfl
  case b1 => unfold maxLen; omega
  case b2 => omega
  case b3 => simp; omega
  case next =>
    intro v' w2 hrow2 hgrow2 hnil hloc
    have hvp : v'.ownBlock ≠ some p := by
      rcases hloc with h | h
      · rw [h]; exact hpn
      · rw [h]; simp; omega
    have hgr : w1.grownBy w2 (Value.slice ao 0 cap).ownBlock := (World.grownBy_alloc w1 _ _).trans hgrow2
    have hp1 : p < w1.heap.size := by omega
    have g0 := hgr.cell d0 (fun e => hpn e.symm)
    have g1 := hgr.cell d1 (fun e => hpn e.symm)
    have k0 : w2.frozen? ⟨p, 0, none⟩ = false := (World.frozen?_of_block (w := w1) (hgr.block p hp1 (fun e => hpn e.symm))).trans e0
    have k1 : w2.frozen? ⟨p, 1, none⟩ = false := (World.frozen?_of_block (w := w1) (hgr.block p hp1 (fun e => hpn e.symm))).trans e1
    have hown2 := hown1.kept hgr (fun e => map_ne_row hown1 hrow1 e.symm)
    have hbel2 : Below base w w2 := hbel1.grown hgr (by omega) (fun k hk => ((hrow1.lt k) hk).1)
    obtain ⟨g, cap', hv⟩ : ∃ g cap', v' = .slice (some ⟨g, 0, none⟩) (0 + 1) cap' := by
      rcases hrow2.2 with ⟨_, h⟩ | ⟨g, cap', _, h, _⟩
      · omega
      · exact ⟨g, cap', h⟩
    have hrow3 := hrow2
    rw [hv] at hrow3 hvp ⊢
    have hgp : g ≠ p := by simpa [Value.ownBlock] using hvp
    have hlast : w2.cell? ⟨g, 0, none⟩ = some (.string s) := ownsRow_get hrow3 (by simp)
    have hrow4 := ownsRow_set hrow3 (a := ⟨p, 1, none⟩) hvp (.slice (some ⟨g, 0, none⟩) (0 + 1) cap')
    have hown4 := hown2.setCell (a := ⟨p, 1, none⟩) (fun e => hpb e.symm) (.slice (some ⟨g, 0, none⟩) (0 + 1) cap')
    have hbel4 := hbel2.setCell (p := ⟨p, 1, none⟩) hp (.slice (some ⟨g, 0, none⟩) (0 + 1) cap')
    have HV : Hid ((Value.slice (some ⟨g, 0, none⟩) (0 + 1) cap').ownBlock ≠ some p) := hvp
    have HR : Hid _ := hrow4
    have HO : Hid _ := hown4
    have HB : Hid _ := hbel4
    clear hnil hloc hgrow2 hrow2 hrow3 hgr hv d0 d1 e0 e1 hrow4 hown4 hbel4 hvp hown2 hbel2 hrow1 hown1 hrow hbel1 hrow0 hbel0 HW HO0
    go_wp2
    go_quiet (fail)
    go_wp2
    go_ret2
    refine ⟨rfl, .slice (some ⟨g, 0, none⟩) (0 + 1) cap', ?_, ?_, HR.out, HO.out, below_drewN HB.out _, HV.out⟩
    · go_simp
    · go_simp
end Go.Proofs.Qxb6617708a
