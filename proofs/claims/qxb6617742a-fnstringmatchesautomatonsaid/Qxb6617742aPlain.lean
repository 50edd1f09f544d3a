/-
  The plain side of seat b6617742a: the automaton of a JSON string's body over a list of bytes. No Go program in sight.
-/
namespace Go.Proofs.Qxb6617742a

/-- A hexadecimal digit. -/
def isHex (c : Int) : Bool := decide ((48 ≤ c ∧ c ≤ 57) ∨ (97 ≤ c ∧ c ≤ 102) ∨ (65 ≤ c ∧ c ≤ 70))
/-- A one-letter escape. -/
def isShort (c : Int) : Bool := decide (c = 34 ∨ c = 92 ∨ c = 47 ∨ c = 98 ∨ c = 102 ∨ c = 110 ∨ c = 114 ∨ c = 116)

/-- One step: 0 the body, 1 behind a backslash, 10 + k: k digits are due; -2 accepted, -1 rejected. -/
def stp (s c : Int) : Int :=
  if s = 0 then (if c = 34 then -2 else if c < 32 then -1 else if c = 92 then 1 else 0)
  else if s = 1 then (if isShort c = true then 0 else if c = 117 then 14 else -1)
  else if isHex c = true then (if s = 11 then 0 else s - 1) else -1

/-- The run over what is left, from place p on: is the closing quote reached, and where does the run stop? -/
def autL : List Int → Int → Nat → Bool × Nat
  | [], _, p => (false, p)
  | c :: r, s, p => if stp s c = -2 then (true, p + 1) else if stp s c = -1 then (false, p) else autL r (stp s c) (p + 1)

def aut (t : List Int) (s : Int) (p : Nat) : Bool × Nat := autL (t.drop p) s p

theorem aut_end {t : List Int} {s : Int} {p : Nat} (h : t.length ≤ p) : aut t s p = (false, p) := by
  unfold aut
  rw [List.drop_eq_nil_of_le h]
  rfl

theorem drop_getD {t : List Int} {p : Nat} (h : p < t.length) : t.drop p = t.getD p 0 :: t.drop (p + 1) := by
  rw [List.drop_eq_getElem_cons h]
  simp [List.getD, h]

theorem aut_yes {t : List Int} {s : Int} {p : Nat} (h : p < t.length) (k : stp s (t.getD p 0) = -2) : aut t s p = (true, p + 1) := by
  unfold aut
  rw [drop_getD h, autL, if_pos k]

theorem aut_no {t : List Int} {s : Int} {p : Nat} (h : p < t.length) (k : stp s (t.getD p 0) = -1) : aut t s p = (false, p) := by
  unfold aut
  rw [drop_getD h, autL, if_neg (by rw [k]; decide), if_pos k]

theorem aut_on {t : List Int} {s n : Int} {p : Nat} (h : p < t.length) (k : stp s (t.getD p 0) = n) (h2 : n ≠ -2) (h1 : n ≠ -1) : aut t s p = aut t n (p + 1) := by
  unfold aut
  rw [drop_getD h, autL, if_neg (by rw [k]; exact h2), if_neg (by rw [k]; exact h1), k]

/-! ### the steps, by the byte -/
theorem stp_quote : stp 0 34 = -2 := by decide
theorem stp_low {c : Int} (h : c ≠ 34) (k : c < 32) : stp 0 c = -1 := by simp [stp, h, k]
theorem stp_esc : stp 0 92 = 1 := by decide
theorem stp_plain {c : Int} (h : c ≠ 34) (k : ¬ c < 32) (e : c ≠ 92) : stp 0 c = 0 := by simp [stp, h, k, e]
theorem stp_short {c : Int} (h : isShort c = true) : stp 1 c = 0 := by simp [stp, h]
theorem stp_u : stp 1 117 = 14 := by decide
theorem stp_bad {c : Int} (h : isShort c = false) (k : c ≠ 117) : stp 1 c = -1 := by simp [stp, h, k]
/-- The state when k digits have been read. -/
def due (k : Nat) : Int := if k = 4 then 0 else 14 - k
theorem stp_hex {c : Int} {k : Nat} (hk : k < 4) (h : isHex c = true) : stp (due k) c = due (k + 1) := by
  have hk' : k = 0 ∨ k = 1 ∨ k = 2 ∨ k = 3 := by omega
  rcases hk' with rfl | rfl | rfl | rfl <;> simp [stp, due, h]
theorem stp_nohex {c : Int} {k : Nat} (hk : k < 4) (h : isHex c = false) : stp (due k) c = -1 := by
  have hk' : k = 0 ∨ k = 1 ∨ k = 2 ∨ k = 3 := by omega
  rcases hk' with rfl | rfl | rfl | rfl <;> simp [stp, due, h]
theorem due_ok {k : Nat} (hk : k ≤ 4) : due k ≠ -2 ∧ due k ≠ -1 := by
  have hk' : k = 0 ∨ k = 1 ∨ k = 2 ∨ k = 3 ∨ k = 4 := by omega
  rcases hk' with rfl | rfl | rfl | rfl | rfl <;> decide

end Go.Proofs.Qxb6617742a
