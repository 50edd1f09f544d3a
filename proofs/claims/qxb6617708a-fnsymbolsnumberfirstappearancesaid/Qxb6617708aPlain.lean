/-
  The plain side of seat b6617708a: a list of names without repeats, and what a map from names to places must hold. No Go program in sight.
-/
import Derived.Maps.OwnSet
import Derived.WalkKit
namespace Go.Proofs.Qxb6617708a
open Go.Maps Go.RowKit

/-- A name as a map's key reads. -/
def key (s : ByteArray) : Lit := .string s.data.toList

theorem key_inj {a b : ByteArray} (h : key a = key b) : a = b := by
  unfold key at h
  have h' : a.data.toList = b.data.toList := by simpa using h
  exact ByteArray.ext (Array.toList_inj.1 h')

theorem key_isKey (s : ByteArray) : WideAt.IsKeyLit (key s) := by
  unfold key WideAt.IsKeyLit
  trivial

theorem toList_eq_iff {a b : ByteArray} : a.toList = b.toList ↔ a = b := by
  rw [ByteArray.toList_eq, ByteArray.toList_eq]
  exact ⟨fun h => ByteArray.ext (Array.toList_inj.1 h), fun h => by rw [h]⟩

/-- No name stands twice. -/
def Dist (L : List ByteArray) : Prop := ∀ i j, i < L.length → j < L.length → L.getD i ByteArray.empty = L.getD j ByteArray.empty → i = j

/-- L' is the list L behind one more symbol s. -/
def Add (L : List ByteArray) (s : ByteArray) (L' : List ByteArray) : Prop := (s ∈ L ∧ L' = L) ∨ (s ∉ L ∧ L' = L ++ [s])

theorem getD_mem {L : List ByteArray} {i : Nat} (hi : i < L.length) : L.getD i ByteArray.empty ∈ L := by
  simp [List.getD, hi]

theorem getD_snoc_lt {L : List ByteArray} {s : ByteArray} {j : Nat} (hjl : j < L.length) : (L ++ [s]).getD j ByteArray.empty = L.getD j ByteArray.empty := by
  simp [List.getD, List.getElem?_append_left hjl]

theorem getD_snoc_last (L : List ByteArray) (s : ByteArray) : (L ++ [s]).getD L.length ByteArray.empty = s := by simp [List.getD]

theorem Add.dist {L L' : List ByteArray} {s : ByteArray} (h : Add L s L') (hd : Dist L) : Dist L' := by
  rcases h with ⟨_, rfl⟩ | ⟨hs, rfl⟩
  · exact hd
  · intro i j hi hj e
    simp at hi hj
    by_cases h1 : i < L.length <;> by_cases h2 : j < L.length
    · rw [getD_snoc_lt h1, getD_snoc_lt h2] at e
      exact hd i j h1 h2 e
    · obtain rfl : j = L.length := by omega
      rw [getD_snoc_lt h1, getD_snoc_last] at e
      exact absurd (e ▸ getD_mem h1) hs
    · obtain rfl : i = L.length := by omega
      rw [getD_snoc_lt h2, getD_snoc_last] at e
      exact absurd (e ▸ getD_mem h2) hs
    · omega

theorem Add.length {L L' : List ByteArray} {s : ByteArray} (h : Add L s L') : L.length ≤ L'.length ∧ L'.length ≤ L.length + 1 := by
  rcases h with ⟨_, rfl⟩ | ⟨hs, rfl⟩ <;> simp

theorem Add.unique {L L' L'' : List ByteArray} {s : ByteArray} (h : Add L s L') (k : Add L s L'') : L' = L'' := by
  rcases h with ⟨h1, rfl⟩ | ⟨h1, rfl⟩ <;> rcases k with ⟨k1, rfl⟩ | ⟨k1, rfl⟩
  · rfl
  · exact absurd h1 k1
  · exact absurd k1 h1
  · rfl

theorem Add.all {L L' : List ByteArray} {s : ByteArray} (h : Add L s L') {p : ByteArray → Prop} (hp : ∀ x ∈ L, p x) (hs : p s) : ∀ x ∈ L', p x := by
  rcases h with ⟨_, rfl⟩ | ⟨_, rfl⟩
  · exact hp
  · intro x hx
    rw [List.mem_append] at hx
    rcases hx with hx | hx
    · exact hp x hx
    · simp at hx; rw [hx]; exact hs

/-- The map's datum D tells of each name of L its place, and of nothing else. -/
structure Num (D : DataW Unit) (L : List ByteArray) : Prop where
  tidy : Tidy D
  size : Maps.size D = L.length
  has : ∀ s, Maps.has D (key s) = true ↔ s ∈ L
  atK : ∀ j, j < L.length → D.atKey (key (L.getD j ByteArray.empty)) (.lit (.int .i64 0)) = .lit (.int .i64 j)

theorem Num.empty : Num (.map []) [] :=
  ⟨tidy_empty, rfl, fun s => by simp [Maps.has], fun j hj => by simp at hj⟩

theorem Num.put {D : DataW Unit} {L : List ByteArray} (h : Num D L) {s : ByteArray} (hs : s ∉ L) : Num (D.put (key s) (.lit (.int .i64 L.length))) (L ++ [s]) := by
  have hf : Maps.has D (key s) = false := by
    cases e : Maps.has D (key s)
    · rfl
    · exact absurd ((h.has s).1 e) hs
  refine ⟨h.tidy.put (key_isKey s) _, ?_, ?_, ?_⟩
  · rw [size_put h.tidy, hf, h.size]; simp
  · intro t
    by_cases e : t = s
    · subst e
      rw [has_put_same h.tidy.isMap (key_isKey t)]
      simp
    · rw [has_put_other (fun e' => e (key_inj e')), h.has t]
      simp [e]
  · intro j hj
    by_cases hjl : j < L.length
    · have e1 := getD_snoc_lt (s := s) hjl
      have hne : L.getD j ByteArray.empty ≠ s := by
        intro e
        apply hs
        rw [← e]
        simp [List.getD, List.getElem?_eq_getElem hjl]
      rw [e1, atKey_put_other (fun e' => hne (key_inj e'))]
      exact h.atK j hjl
    · have hj' : j = L.length := by simp at hj; omega
      subst hj'
      have e1 := getD_snoc_last L s
      rw [e1, atKey_put_same h.tidy.isMap (key_isKey s)]

/-- A list each of whose names is at the place that some function tells has no repeats. -/
theorem dist_of_places {L : List ByteArray} (f : ByteArray → Int) (h : ∀ i, i < L.length → f (L.getD i ByteArray.empty) = (i : Int)) : Dist L := by
  intro i j hi hj e
  have h1 := h i hi
  have h2 := h j hj
  rw [e, h2] at h1
  omega

theorem tight {P : Program} {k : TypeId} {R : Value → Option (DataW Unit × List MemPlace)} {w : World} {b n : Nat} {D : DataW Unit} (h : w.ownsMap P k R b n D) : w.ownsMap P k R b (Maps.size D) D := by
  obtain ⟨es, clock, hb, F, hs, hD⟩ := h
  refine ⟨es, clock, hb, F, ?_, hD⟩
  rw [hD]
  show es.size ≤ ((es.toList.map _).foldr DataW.insert []).length
  rw [length_sorted]
  simp

end Go.Proofs.Qxb6617708a
