/-
  The state that symbols keeps, and the walks of number and ZZSymbolsNumber (functions 6, 5) told by it.
-/
import Derived.Test.Qxb6617708aNum
namespace Go.Proofs.Qxb6617708a
open Go.RowKit Go.Maps
set_option linter.unusedVariables false

/-- numbers and names, from block base on, hold the list L. -/
structure St (base : Nat) (w : World) (mo : Option Nat) (ao : Option Addr) (cap : Nat) (L : List ByteArray) : Prop where
  row : w.ownsRow base 9 1 (.slice ao L.length cap) L.length (L.map Value.string)
  map : (mo = none ∧ L = []) ∨ ∃ b D, mo = some b ∧ base ≤ b ∧ w.ownsMap Try.prog 9 (plainElem Try.prog 3) b L.length D ∧ Num D L

theorem slice_of_row {w : World} {base n : Nat} {v : Value} {xs : List Value} (h : w.ownsRow base 9 1 v n xs) : ∃ ao cap, v = .slice ao n cap := by
  rcases h.2 with ⟨rfl, rfl⟩ | ⟨g, cap, _, rfl, _⟩
  · exact ⟨none, 0, rfl⟩
  · exact ⟨some ⟨g, 0, none⟩, cap, rfl⟩

theorem St.alloc {base : Nat} {w : World} {mo : Option Nat} {ao : Option Addr} {cap : Nat} {L : List ByteArray} (h : St base w mo ao cap L) (o : Obj) : St base (w.alloc o) mo ao cap L := by
  refine ⟨h.row.alloc o, ?_⟩
  rcases h.map with h1 | ⟨b, D, e, hb, ho, hn⟩
  · exact .inl h1
  · exact .inr ⟨b, D, e, hb, ho.alloc o, hn⟩

/-- What is behind one symbol. -/
def Behind (base : Nat) (L : List ByteArray) (s : ByteArray) (w : World) (k : Nat) (L' : List ByteArray) (mo : Option Nat) (ao : Option Addr) (cap : Nat) (w' : World) : Prop :=
  Add L s L' ∧ k < L'.length ∧ L'.getD k ByteArray.empty = s ∧ St base w' mo ao cap L' ∧ Below base w w'

theorem number_any (base p cap : Nat) (mo : Option Nat) (ao : Option Addr) (L : List ByteArray) (s : ByteArray) (w : World) (hs : s.size ≤ maxLen) (hst : St base w mo ao cap L)
    (c0 : w.cell? ⟨p, 0, none⟩ = some (.map mo)) (c1 : w.cell? ⟨p, 1, none⟩ = some (.slice ao L.length cap)) (f0 : w.frozen? ⟨p, 0, none⟩ = false) (f1 : w.frozen? ⟨p, 1, none⟩ = false)
    (hpn : (Value.slice ao L.length cap).ownBlock ≠ some p) (hbase : base ≤ w.heap.size) (hp : base ≤ p) (hL : L.length ≤ 10000) :
    Calls Try.prog 6 #[.pointer (some ⟨p, 0, none⟩), .string s] w fun e w' => ∃ (k : Nat) (L' : List ByteArray) (mo' : Option Nat) (ao' : Option Addr) (cap' : Nat),
      e = .returned (.tuple #[.int .i64 k, .string s]) ∧ Behind base L s w k L' mo' ao' cap' w' ∧ w'.cell? ⟨p, 0, none⟩ = some (.map mo') ∧ w'.cell? ⟨p, 1, none⟩ = some (.slice ao' L'.length cap') := by
  -- what the two ways that write leave
  have fin : ∀ (b n : Nat) (D : DataW Unit) (w' : World), s ∉ L → base ≤ b → Num D L → After base p b n L.length (L.map Value.string) D s w w' →
      ∃ (L' : List ByteArray) (mo' : Option Nat) (ao' : Option Addr) (cap' : Nat), Behind base L s w L.length L' mo' ao' cap' w' ∧ w'.cell? ⟨p, 0, none⟩ = some (.map mo') ∧ w'.cell? ⟨p, 1, none⟩ = some (.slice ao' L'.length cap') := by
    intro b n D w' hnm hb hnum ⟨v', k0, k1, hrow, hown, hbel, _⟩
    have hnum' := hnum.put hnm
    have hrow' : w'.ownsRow base 9 1 v' (L ++ [s]).length ((L ++ [s]).map Value.string) := by simpa using hrow
    obtain ⟨ao', cap', rfl⟩ := slice_of_row hrow'
    refine ⟨L ++ [s], some b, ao', cap', ⟨.inr ⟨hnm, rfl⟩, by simp, getD_snoc_last L s, ⟨hrow', .inr ⟨b, _, rfl, hb, ?_, hnum'⟩⟩, hbel⟩, k0, k1⟩
    rw [← hnum'.size]
    exact tight hown
  rcases hst.map with ⟨rfl, rfl⟩ | ⟨b, D, rfl, hb, hown, hnum⟩
  · refine (number_first base p cap ao s w hs c0 c1 f0 f1 hst.row hpn hbase hp).mono fun e w' ⟨he, ha⟩ => ?_
    obtain ⟨L', mo', ao', cap', h1, h2, h3⟩ := fin _ _ _ w' (by simp) hbase Num.empty ha
    exact ⟨0, L', mo', ao', cap', he, h1, h2, h3⟩
  · cases hh : Maps.has D (key s)
    · have hnm : s ∉ L := fun hm => by rw [(hnum.has s).2 hm] at hh; cases hh
      refine (number_new base p b L.length L.length cap ao (L.map Value.string) D s w hs c0 c1 f0 f1 hst.row hpn hbase hb hp hown hh hL hL).mono fun e w' ⟨he, ha⟩ => ?_
      obtain ⟨L', mo', ao', cap', h1, h2, h3⟩ := fin _ _ _ w' hnm hb hnum ha
      exact ⟨L.length, L', mo', ao', cap', he, h1, h2, h3⟩
    · have hm := (hnum.has s).1 hh
      obtain ⟨k, hk, ek⟩ := List.getElem_of_mem hm
      have ek' : L.getD k ByteArray.empty = s := by simpa [List.getD, hk] using ek
      have hat := hnum.atK k hk
      rw [ek'] at hat
      obtain ⟨g, hg⟩ : ∃ g, ao = some ⟨g, 0, none⟩ := by
        rcases hst.row.2 with ⟨h1, h2⟩ | ⟨g, cap', _, h1, _⟩
        · omega
        · cases h1; exact ⟨g, rfl⟩
      subst hg
      have hcell : w.cell? ⟨g, k, none⟩ = some (.string s) := ownsRow_get hst.row (by simp [hk, ek])
      refine (number_there p b L.length g L.length cap k D s w hs c0 c1 hown hh hat hk (by omega) hcell).mono fun e w' ⟨he, m, hw⟩ => ?_
      subst hw
      exact ⟨k, L, some b, some ⟨g, 0, none⟩, cap, he, ⟨.inl ⟨hm, rfl⟩, hk, ek', ⟨hst.row, .inr ⟨b, D, rfl, hb, hown, hnum⟩⟩, below_drewN (Below.refl _ _) _⟩, c0, c1⟩

set_option maxHeartbeats 800000 in
theorem zz_any (base cap : Nat) (mo : Option Nat) (ao : Option Addr) (L : List ByteArray) (s : ByteArray) (w : World) (hs : s.size ≤ maxLen) (hst : St base w mo ao cap L) (hbase : base ≤ w.heap.size) (hL : L.length ≤ 10000) :
    Calls Try.prog 5 #[.map mo, .slice ao L.length cap, .string s] w fun e w' => ∃ (k : Nat) (L' : List ByteArray) (mo' : Option Nat) (ao' : Option Addr) (cap' : Nat),
      e = .returned (.tuple #[.int .i64 k, .string s, .map mo', .slice ao' L'.length cap']) ∧ Behind base L s w k L' mo' ao' cap' w' := by
  have hpn : (Value.slice ao L.length cap).ownBlock ≠ some w.heap.size := fun e => by have := (hst.row.lt _ e).2; omega
  have hst' := hst.alloc (.cells #[.map mo, .slice ao L.length cap] 31)
  have HS : Hid _ := hst'
  have HS0 : Hid _ := hst
  clear hst hst'
  go_enter Try.func5, Try.ntmps5
  go_wp2_with (first
    | (go_at_call 6; refine (number_any base w.heap.size cap mo ao L s _ hs HS.out ?_ ?_ ?_ ?_ hpn ?_ hbase hL).mono ?_)
    | fail)
  · go_simp
  · go_simp
  · go_simp
  · go_simp
  · simp; omega
  · rintro e w1 ⟨k, L', mo', ao', cap', rfl, hbh, g0, g1⟩
    have HB : Hid (Behind base L s w k L' mo' ao' cap' w1) := by
      obtain ⟨h1, h2, h3, h4, h5⟩ := hbh
      exact ⟨h1, h2, h3, h4, ((Below.refl _ _).alloc hbase _).trans h5⟩
    clear hbh HS HS0
    go_wp2
    go_quiet (fail)
    go_wp2
    refine bodyPost_ret (v := .tuple #[.int .i64 k, .string s, .map mo', .slice ao' L'.length cap']) (by simp [results, Try.results5, go_sem]) rfl ⟨k, L', mo', ao', cap', rfl, ?_⟩
    obtain ⟨h1, h2, h3, h4, h5⟩ := HB.out
    exact ⟨h1, h2, h3, ⟨h4.row, h4.map⟩, below_drewN h5 _⟩
end Go.Proofs.Qxb6617708a
