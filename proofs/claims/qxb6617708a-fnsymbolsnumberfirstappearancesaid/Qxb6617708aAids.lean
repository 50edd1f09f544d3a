/-
  Small facts for the walk of function 3: what came in, and what the call's own memory holds.
-/
import Derived.Test.Qxb6617708aZz
namespace Go.Proofs.Qxb6617708a
open Go.RowKit Go.Maps
set_option linter.unusedVariables false

/-- A slice of strings that came in: its strings ss; where there is one the slice leads to them. -/
structure Strs (w : World) (ao : Option Addr) (ss : List ByteArray) : Prop where
  size : ∀ s ∈ ss, s.size ≤ maxLen
  cell : ∀ j, j < ss.length → ∃ b off, ao = some ⟨b, off, none⟩ ∧ b < w.heap.size ∧ w.cell? ⟨b, off + j, none⟩ = some (.string (ss.getD j ByteArray.empty))

/-- What a map that came in answers. -/
structure Looks (w : World) (mo : Option Nat) (sz : Nat) : Prop where
  len : ∀ ty, (Builtin.len_ #[22] ty #[.map mo]).run Try.prog w = .ok (.int .i64 sz) w
  look : ∀ s : ByteArray, s.size ≤ maxLen → ∃ (c : Int) (h : Bool), (Instr.lookup 22 (.map mo) (.string s) true).run Try.prog w = .ok (.tuple #[.int .i64 c, .bool h]) w
  nil : mo = none → sz = 0

theorem dist_of_looks {w : World} {mo : Option Nat} {nm : List ByteArray} (h : ∀ j, j < nm.length → (Instr.lookup 22 (.map mo) (.string (nm.getD j ByteArray.empty)) true).run Try.prog w = .ok (.tuple #[.int .i64 j, .bool true]) w) : Dist nm := by
  intro i j hi hj e
  have h1 := h i hi
  have h2 := h j hj
  rw [e, h2] at h1
  simp at h1
  omega

theorem run_makeMap_hint {P : Program} {t k e : TypeId} (ht : P.underlying t = some (.map k e)) (n : Int) (w : World) : (Instr.makeMap t (some (.int .i64 n))).run P w = .ok (.map (some w.heap.size)) (w.alloc (.map #[] 0)) := by
  simp [Instr.makeMap, run_underlying ht, asInt, asIntOf, Result.andThen]

theorem one_string (s : ByteArray) : ∀ u ∈ [Value.string s], u.oneCell' = true := by
  intro u hu; simp at hu; subst hu; rfl

theorem take_snoc {L : List ByteArray} {k : Nat} (h : k < L.length) : L.take (k + 1) = L.take k ++ [L[k]] := List.take_succ_eq_append_getElem h


/-- order, the law's own list, in block B. -/
structure Ord (B cap : Nat) (w wr : World) (L : List ByteArray) : Prop where
  row : wr.ownsRow B 9 1 (.slice (some ⟨B, 0, none⟩) L.length cap) L.length (L.map Value.string)
  bel : Below B w wr

theorem Ord.lt {B cap : Nat} {w wr : World} {L : List ByteArray} (h : Ord B cap w wr L) : B + 1 ≤ wr.heap.size := (h.row.lt B rfl).2

theorem Ord.later {B cap : Nat} {w wr w' : World} {L : List ByteArray} (h : Ord B cap w wr L) (hb : Below (B + 1) wr w') : Ord B cap w w' L := by
  refine ⟨⟨h.row.1, ?_⟩, h.bel.trans (hb.mono (by omega))⟩
  rcases h.row.2 with h1 | ⟨g, c, cur, hv, hg, hh, r⟩
  · exact .inl h1
  · cases hv
    exact .inr ⟨B, cap, cur, rfl, hg, (hb.block B (by omega)).trans hh, r⟩

theorem Ord.cell {B cap : Nat} {w wr : World} {L : List ByteArray} (h : Ord B cap w wr L) {j : Nat} (hj : j < L.length) : wr.cell? ⟨B, j, none⟩ = some (.string (L.getD j ByteArray.empty)) := by
  refine ownsRow_get h.row ?_
  simp [List.getD, hj]

/-- The map's half of the state. -/
def StM (base : Nat) (w : World) (mo : Option Nat) (L : List ByteArray) : Prop := (mo = none ∧ L = []) ∨ ∃ b D, mo = some b ∧ base ≤ b ∧ w.ownsMap Try.prog 9 (plainElem Try.prog 3) b L.length D ∧ Num D L

theorem StM.grown {base : Nat} {w w' : World} {mo : Option Nat} {L : List ByteArray} {row : Option Nat} (h : StM base w mo L) (hg : w.grownBy w' row) (hr : ∀ k, row = some k → ∃ v, w.cell? ⟨k, 0, none⟩ = some v) : StM base w' mo L := by
  rcases h with h | ⟨b, D, rfl, hb, ho, hn⟩
  · exact .inl h
  · refine .inr ⟨b, D, rfl, hb, ho.kept hg (fun e => ?_), hn⟩
    obtain ⟨v, hv⟩ := hr b e.symm
    exact map_ne_cell ho hv rfl

theorem not_mem_take {nm : List ByteArray} (hd : Dist nm) {k : Nat} (hk : k < nm.length) : nm[k] ∉ nm.take k := by
  intro hm
  obtain ⟨i, hi, e⟩ := List.getElem_of_mem hm
  simp at hi
  have e2 : nm.getD i ByteArray.empty = nm.getD k ByteArray.empty := by
    simp [List.getD, hk, show i < nm.length by omega]
    simpa using e
  have := hd i k (by omega) hk e2
  omega

theorem num_take {D : DataW Unit} {nm : List ByteArray} {k : Nat} (h : Num D (nm.take k)) (hk : k < nm.length) (hd : Dist nm) : Num (D.put (key nm[k]) (.lit (.int .i64 k))) (nm.take (k + 1)) := by
  have := h.put (not_mem_take hd hk)
  rw [take_snoc hk]
  have e : (nm.take k).length = k := by simp; omega
  rwa [e] at this

theorem fill_step {nm : List ByteArray} {k : Nat} {z : Value} (hk : k < nm.length) : ((nm.take k).map Value.string ++ List.replicate (nm.length - k) z).set k (.string nm[k]) = (nm.take (k + 1)).map Value.string ++ List.replicate (nm.length - (k + 1)) z := by
  have e : nm.length - k = (nm.length - (k + 1)) + 1 := by omega
  rw [List.set_append_right _ _ (by simp; omega), e, List.replicate_succ]
  have e2 : k - ((nm.take k).map Value.string).length = 0 := by simp; omega
  rw [e2, List.set_cons_zero, take_snoc hk, List.map_append, List.append_assoc]
  rfl

theorem fill_at {nm : List ByteArray} {k : Nat} {z : Value} (hk : k < nm.length) : ((nm.take k).map Value.string ++ List.replicate (nm.length - k) z)[k]? = some z := by
  have e2 : ((nm.take k).map Value.string).length = k := by simp; omega
  rw [List.getElem?_append_right (by omega), e2, Nat.sub_self, List.getElem?_replicate, if_pos (by omega)]

theorem St.grownAt {B : Nat} {w w' : World} {mo : Option Nat} {ao : Option Addr} {cap : Nat} {L : List ByteArray} (h : St (B + 1) w mo ao cap L) (hg : w.grownBy w' (some B)) : St (B + 1) w' mo ao cap L := by
  refine ⟨h.row.kept hg (.inr fun e => ?_), ?_⟩
  · have := (h.row.lt B e).1; omega
  · rcases h.map with h1 | ⟨b, D, e, hb, ho, hn⟩
    · exact .inl h1
    · exact .inr ⟨b, D, e, hb, ho.kept hg (fun e => by simp at e; omega), hn⟩

theorem behind_new {base k : Nat} {L L' : List ByteArray} {s : ByteArray} {w w' : World} {mo : Option Nat} {ao : Option Addr} {cap : Nat} (h : Behind base L s w k L' mo ao cap w') (hnm : s ∉ L) : k = L.length ∧ L' = L ++ [s] := by
  obtain ⟨hadd, hk, hg, _⟩ := h
  obtain rfl : L' = L ++ [s] := hadd.unique (.inr ⟨hnm, rfl⟩)
  refine ⟨?_, rfl⟩
  by_cases h : k < L.length
  · rw [getD_snoc_lt h] at hg
    exact absurd (hg ▸ getD_mem h) hnm
  · simp at hk; omega

theorem behind_there {base k j : Nat} {L L' : List ByteArray} {s : ByteArray} {w w' : World} {mo : Option Nat} {ao : Option Addr} {cap : Nat} (h : Behind base L s w k L' mo ao cap w') (hd : Dist L) (hj : j < L.length) (ej : L.getD j ByteArray.empty = s) : k = j ∧ L' = L := by
  obtain ⟨hadd, hk, hg, _⟩ := h
  obtain rfl : L = L' := Add.unique (.inl ⟨ej ▸ getD_mem hj, rfl⟩) hadd
  exact ⟨hd k j hk hj (hg.trans ej.symm), rfl⟩

theorem Ord.append {B cap : Nat} {w wr w1 : World} {L : List ByteArray} {s : ByteArray} (h : Ord B cap w wr L) (hBw : B ≤ w.heap.size) (hrow : w1.ownsRow B 9 1 (.slice (some ⟨B, 0, none⟩) (L.length + 1) cap) (L.length + 1) (L.map Value.string ++ [.string s])) (hg : wr.grownBy w1 (some B)) : Ord B cap w w1 (L ++ [s]) := by
  refine ⟨by simpa using hrow, h.bel.grown hg (by have := h.lt; omega) (fun k hk => by cases hk; exact Nat.le_refl _)⟩

theorem ownsMap_drewN {P : Program} {k : TypeId} {R : Value → Option (DataW Unit × List MemPlace)} {w : World} {b n : Nat} {D : DataW Unit} (h : w.ownsMap P k R b n D) (m : Nat) : (w.drewN m).ownsMap P k R b n D := h

theorem stm_len {base : Nat} {w : World} {mo : Option Nat} {L : List ByteArray} (h : StM base w mo L) (ty : TypeId) : (Builtin.len_ #[22] ty #[.map mo]).run Try.prog w = .ok (.int .i64 L.length) w := by
  rcases h with ⟨rfl, rfl⟩ | ⟨b, D, rfl, hb, ho, hn⟩
  · exact len_nil Try.underlying22 ty
  · rw [ho.len Try.underlying22 ty, hn.size]

theorem St.names {base : Nat} {w : World} {mo : Option Nat} {ao : Option Addr} {cap : Nat} {L : List ByteArray} (h : St base w mo ao cap L) {k : Nat} (hk : k < L.length) : ∃ g, ao = some ⟨g, 0, none⟩ ∧ w.cell? ⟨g, k, none⟩ = some (.string L[k]) := by
  rcases h.row.2 with ⟨_, h2⟩ | ⟨g, c, cur, h1, _⟩
  · omega
  · cases h1
    exact ⟨g, rfl, ownsRow_get h.row (by simp [hk])⟩

theorem St.numbers {base : Nat} {w : World} {mo : Option Nat} {ao : Option Addr} {cap : Nat} {L : List ByteArray} (h : St base w mo ao cap L) {k : Nat} (hk : k < L.length) : ∃ (b : Nat) (D : DataW Unit), mo = some b ∧ w.ownsMap Try.prog 9 (plainElem Try.prog 3) b L.length D ∧ Maps.has D (key L[k]) = true ∧ D.atKey (key L[k]) (.lit (.int .i64 0)) = .lit (.int .i64 k) := by
  rcases h.map with ⟨_, rfl⟩ | ⟨b, D, e, hb, ho, hn⟩
  · simp at hk
  · refine ⟨b, D, e, ho, (hn.has _).2 (List.getElem_mem hk), ?_⟩
    have := hn.atK k hk
    simpa [List.getD, hk] using this

theorem fill_zero {nm : List ByteArray} {k : Nat} {z : Value} (hk : 0 < nm.length) : ((nm.take k).map Value.string ++ List.replicate (nm.length - k) z)[0]? = some (((nm.take k).map Value.string ++ List.replicate (nm.length - k) z).getD 0 z) := by
  have h : 0 < ((nm.take k).map Value.string ++ List.replicate (nm.length - k) z).length := by simp; omega
  simp only [List.getD]
  rw [List.getElem?_eq_getElem h]
  rfl

end Go.Proofs.Qxb6617708a
