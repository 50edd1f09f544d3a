/-
  The row of seat b6617708a, proved: what came in is opened, the walk is called, what came in is read again.
-/
import Derived.Test.Qxb6617708aMain
import Derived.ProofKit
import Derived.OpenShut
import Derived.SliceStrings
import Derived.ChangeOld
import Derived.Below
namespace Go.Proofs.Qxb6617708a.fnSymbolsNumberFirstAppearance
open Go.ChangeShapes Go.WideShapes Go.ChangeAt Go.RowKit
set_option linter.unusedVariables false

theorem own : ownKnob Try.prog.godebug = none := by kernel_rfl
theorem laidOut : laidOutB Try.prog = true := by kernel_rfl
theorem cells9 : Try.prog.cellsOf 9 = 1 := by kernel_rfl

/-- Whatever fits: the walk, with no bound of ours. -/
theorem walk (mo : Option Nat) (sz : Nat) (ao bo : Option Addr) (ncap scap : Nat) (nm sc : List ByteArray) (w : World) (hm : Looks w mo sz) (hn : Strs w ao nm) (hs : Strs w bo sc) :
    Calls Try.prog 3 #[.map mo, .slice ao nm.length ncap, .slice bo sc.length scap] w fun e w' => e = .returned (.bool true) ∧ Below w.heap.size w w' := by
  by_cases h : 4096 < sz ∨ 4096 < nm.length ∨ 4096 < sc.length
  · exact main_big mo sz ao bo nm.length ncap sc.length scap w hm h
  · exact main_any mo sz ao bo ncap scap nm sc w hm hn hs (by omega) (by omega) (by omega)

/-- A slice of strings that came in. -/
theorem strs_in {H : Type} {enc : TypeId × Value → H} {w : World} {a : Option Addr} {len cap : Nat} {d : DataW H} {p : List MemPlace} (h : DataW.Trod enc Try.prog w 0 (fun _ => true) true 23 (.slice a len cap) d p) :
    ∃ ss : List ByteArray, ss.length = len ∧ Strs w a ss := by
  obtain ⟨fuel, hf⟩ := h
  rcases open_strings Try.underlying23 Try.underlying9 cells9 hf with ⟨hcs, _⟩ | ⟨x, l, c, ss, hcs, _, hl, hm, hz, _, hcell, hws⟩
  · simp [Value.cells] at hcs
    obtain ⟨rfl, rfl, rfl⟩ := hcs
    exact ⟨[], rfl, ⟨fun s hs => by simp at hs, fun j hj => by simp at hj⟩⟩
  · simp [Value.cells] at hcs
    obtain ⟨rfl, rfl, rfl⟩ := hcs
    simp at hz
    refine ⟨ss.take len, by simp; omega, ⟨fun s hs => hws s (List.mem_of_mem_take hs), fun j hj => ?_⟩⟩
    simp at hj
    obtain ⟨b, off, spot⟩ := x
    have h0 := hcell 0 (by omega)
    have hspot : spot = none := by simpa [Addr.add] using World.cell?_spot h0
    subst hspot
    refine ⟨b, off, rfl, ?_, ?_⟩
    · exact World.block_lt_of_cell? w _ (by simpa [Addr.add] using h0)
    · have := hcell j (by omega)
      rw [add_plain] at this
      rw [this]
      simp [List.getD, show j < len by omega]

/-- A map that came in. -/
theorem map_in {H : Type} {enc : TypeId × Value → H} {w : World} {mo : Option Nat} {d : DataW H} {p : List MemPlace} (h : DataW.Trod enc Try.prog w 0 (fun _ => true) true 22 (.map mo) d p) : ∃ sz : Nat, Looks w mo sz := by
  obtain ⟨fuel, hf⟩ := h
  rcases WideElems.open_map Try.underlying22 hf with ⟨hcs, _⟩ | ⟨bm, es, clock, m, rfl, hcs, hb, _, F, _⟩
  · simp [Value.cells] at hcs
    subst hcs
    exact ⟨0, ⟨fun ty => Maps.len_nil Try.underlying22 ty, fun s hs => ⟨0, false, Maps.look_nil true law Try.underlying22 (zero3 _) (keyOf_key hs)⟩, fun _ => rfl⟩⟩
  · simp [Value.cells] at hcs
    subst hcs
    have hown := World.ownsMap_of_fit (R := plainElem Try.prog 3) hb F (fun x _ z hz => elemAt_plainElem_int Try.underlying3 hz)
    refine ⟨_, ⟨fun ty => hown.len Try.underlying22 ty, fun s hs => ?_, fun e => by cases e⟩⟩
    obtain ⟨v, ps, hrun, hv⟩ := hown.look_ok law Try.underlying22 (zero3 _) (plainElem_int Try.underlying3 (by decide)) (keyOf_key hs)
    obtain ⟨c, rfl, _, _⟩ := plainElem_int_inv Try.underlying3 hv
    exact ⟨c, _, hrun⟩

set_option maxRecDepth 100000 in
theorem lifted (os : Os) (started : os.Started) (H : Type) (enc : TypeId × Value → H) :
    ReturnsInHanded {} Try.checked os 3 .any (Rows.fnSymbolsNumberFirstAppearanceSpec.pre6 enc Try.prog Try.f3 Rows.fnSymbolsNumberFirstAppearanceRow.domain false) (Rows.fnSymbolsNumberFirstAppearanceSpec.post enc Try.prog Try.f3 false true false false) := by
  refine returnsInHanded_of_change (C := Try.checked) own started (by kernel_rfl) Try.func3
    (ChangeSpec.witness6 (enc := enc) (C := Try.checked) false ⟨#[], #[.map none, .slice none 0 0, .slice none 0 0], []⟩ 8 (by kernel_rfl) (by kernel_rfl) (by kernel_rfl) (by kernel_rfl)) ?_
  intro W base args ds gs before hval0 hW hcnd _
  have hval : ∀ (j : Nat) t v, Try.f3.params[j]? = some t → args[j]? = some v → Value.okWide Try.prog W .any base t v := hval0
  have hW' := hW
  obtain ⟨p, q, hA0, hV, rfl, hfz, hnd⟩ := hW
  have hA : DataW.TrodAll enc Try.prog W 0 (fun _ => true) true Try.f3.params.toList args.toList ds p := hA0
  rw [Try.params3] at hA hval
  obtain ⟨v0, vs0, d0, ds0, p0, q0, hargs, rfl, rfl, h0, r0⟩ := trodAll_cons hA
  obtain ⟨v1, vs1, d1, ds1, p1, q1, rfl, rfl, rfl, h1, r1⟩ := trodAll_cons r0
  obtain ⟨v2, vs2, d2, ds2, p2, q2, rfl, rfl, rfl, h2, r2⟩ := trodAll_cons r1
  obtain ⟨rfl, rfl, rfl⟩ := trodAll_nil r2
  obtain rfl : args = #[v0, v1, v2] := by cases args; simp_all
  obtain ⟨rfl, rfl⟩ := trodVars_none hV
  obtain ⟨mo, rfl⟩ := okWide_map Try.underlying22 (hval 0 22 v0 rfl rfl)
  obtain ⟨a1, len1, cap1, rfl⟩ := okWide_slice Try.underlying23 (hval 1 23 v1 rfl rfl)
  obtain ⟨a2, len2, cap2, rfl⟩ := okWide_slice Try.underlying23 (hval 2 23 v2 rfl rfl)
  have lt0 : ∀ x ∈ p0, x.block < W.heap.size := by obtain ⟨m, hm⟩ := h0; exact DataW.trod_lt m _ _ _ hm
  have lt1 : ∀ x ∈ p1, x.block < W.heap.size := by obtain ⟨m, hm⟩ := h1; exact DataW.trod_lt m _ _ _ hm
  have lt2 : ∀ x ∈ p2, x.block < W.heap.size := by obtain ⟨m, hm⟩ := h2; exact DataW.trod_lt m _ _ _ hm
  obtain ⟨sz, hm⟩ := map_in h0
  obtain ⟨nm, rfl, hn⟩ := strs_in h1
  obtain ⟨sc, rfl, hs⟩ := strs_in h2
  clear hA0 hval0
  refine (walk mo sz a1 a2 cap1 cap2 nm sc W hm hn hs).mono fun e W' ⟨he, bel⟩ => ?_
  subst he
  exact ⟨_, rfl, _, _, _, [], _, [], hW', trodAll_mk1 (shut_bool Try.underlying4 _), (trodAll_cons_mk (Below.trod laidOut (by kernel_rfl) (of_decide_eq_true (by kernel_rfl)) h0 bel lt0) (trodAll_cons_mk (Below.trod laidOut (by kernel_rfl) (of_decide_eq_true (by kernel_rfl)) h1 bel lt1) (trodAll_cons_mk (Below.trod laidOut (by kernel_rfl) (of_decide_eq_true (by kernel_rfl)) h2 bel lt2) trodAll_mk0))), rfl, bel.frame _, fun h => by cases h⟩

theorem over : Rows.fnSymbolsNumberFirstAppearanceRow.holds Try.pinned (OpenSpec.ofChange Rows.fnSymbolsNumberFirstAppearanceSpec) :=
  OpenClaim.holds_of_wide 3 Try.f3 rfl rfl rfl rfl rfl rfl rfl ⟨rfl, rfl, rfl, rfl, rfl⟩ rfl rfl rfl rfl rfl (by kernel_rfl) Try.func3 (by kernel_rfl)
    (of_decide_eq_true (by kernel_rfl)) (by unfold Func.isWrapper; first | (rw [if_pos (by decide +kernel)]; kernel_rfl) | (rw [if_neg (by decide +kernel)]; exact ⟨rfl, rfl⟩))
    (fun os started H enc _ => lifted os started H enc)

theorem proved : Rows.FnSymbolsNumberFirstAppearanceSaid := over
#print axioms proved
end Go.Proofs.Qxb6617708a.fnSymbolsNumberFirstAppearance
