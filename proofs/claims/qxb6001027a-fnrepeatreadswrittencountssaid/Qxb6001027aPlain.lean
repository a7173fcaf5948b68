/-
  THE PLAIN FUNCTIONS OF THE SEAT: no Go in sight. What 'repeatCount' reads off a text of bytes.
-/
namespace Go.Proofs.Qxb6001027a.Plain

/-- Is the number a decimal digit's code? -/
def isDig (c : Int) : Bool := decide (48 ≤ c) && decide (c ≤ 57)
/-- The byte of a text at a place (0 beyond its end), as a number. -/
def bat (l : List UInt8) (k : Nat) : Int := ((l.getD k 0).toNat : Int)
def isD (c : UInt8) : Bool := isDig (c.toNat : Int)
/-- The end of the digits that begin at k. -/
def dEnd (l : List UInt8) (k : Nat) : Nat := k + ((l.drop k).takeWhile isD).length
/-- Is the number that begins at k written with a leading zero? -/
def lzAt (l : List UInt8) (k : Nat) : Bool := decide (k + 1 < dEnd l k) && (bat l k == 48)

theorem bat_lt (l : List UInt8) (k : Nat) (h : k < l.length) : bat l k = (l[k].toNat : Int) := by
  unfold bat; rw [List.getD_eq_getElem?_getD, List.getElem?_eq_getElem h]; rfl

theorem dEnd_past (l : List UInt8) (k : Nat) (h : l.length ≤ k) : dEnd l k = k := by
  unfold dEnd; rw [List.drop_eq_nil_of_le h]; rfl
theorem dEnd_stop (l : List UInt8) (k : Nat) (h : isDig (bat l k) = false) : dEnd l k = k := by
  by_cases hk : k < l.length
  · unfold dEnd
    rw [List.drop_eq_getElem_cons hk, List.takeWhile_cons]
    rw [bat_lt l k hk] at h
    have : isD l[k] = false := h
    simp [this]
  · exact dEnd_past l k (by omega)
theorem dEnd_step (l : List UInt8) (k : Nat) (hk : k < l.length) (h : isDig (bat l k) = true) : dEnd l k = dEnd l (k + 1) := by
  unfold dEnd
  rw [List.drop_eq_getElem_cons hk, List.takeWhile_cons]
  rw [bat_lt l k hk] at h
  have : isD l[k] = true := h
  simp [this]; omega
theorem dEnd_ge (l : List UInt8) (k : Nat) : k ≤ dEnd l k := by unfold dEnd; omega
theorem dEnd_le (l : List UInt8) (k : Nat) (h : k ≤ l.length) : dEnd l k ≤ l.length := by
  unfold dEnd
  have := (List.takeWhile_sublist (l := l.drop k) isD).length_le
  simp at this; omega

/-- The end of the count: behind the first number, or, past a comma, behind the second. -/
def cEnd (l : List UInt8) : Nat := if dEnd l 1 < l.length ∧ bat l (dEnd l 1) = 44 then dEnd l (dEnd l 1 + 1) else dEnd l 1
/-- Does the text begin with a count? -/
def cOk (l : List UInt8) : Bool := decide (dEnd l 1 ≠ 1) && (decide (cEnd l ≠ l.length) && (bat l (cEnd l) == 125))
/-- Has a number of the count a leading zero? -/
def cZ (l : List UInt8) : Bool := lzAt l 1 || (decide (dEnd l 1 < l.length ∧ bat l (dEnd l 1) = 44) && lzAt l (dEnd l 1 + 1))
/-- What repeatCount answers. -/
def rcN (l : List UInt8) : Int := if cOk l then (cEnd l : Int) + 1 else -1
def rcZ (l : List UInt8) : Bool := cOk l && cZ l

theorem cEnd_le (l : List UInt8) (h : 1 ≤ l.length) : cEnd l ≤ l.length := by
  unfold cEnd
  have h1 := dEnd_le l 1 h
  split
  · rename_i hc
    exact dEnd_le _ _ (by omega)
  · exact h1

end Go.Proofs.Qxb6001027a.Plain
