/-
  THE PLAIN FUNCTIONS OF THE SEAT: no Go in sight. How countValues reads a book of bytes: units, marks, lines.
-/
namespace Go.Proofs.Qxb6001236a.Plain

/-- the byte at a place (0 beyond the end) -/
def bt (ds : List Int) (k : Nat) : Int := ds.getD k 0

/-! ### THE UNITS -/
/-- how many whole units -/
def uN (len st sz : Nat) : Nat := (len - st) / sz
/-- unit i where it is an ASCII character, 128 where it is not or the book ends before it -/
def asc (ds : List Int) (st sz lo : Nat) (i : Nat) : Int :=
  if uN ds.length st sz ≤ i then 128
  else if 128 ≤ bt ds (st + i * sz + lo) then 128
  else if sz = 2 ∧ bt ds (st + i * sz + lo + 1 - 2 * lo) ≠ 0 then 128
  else bt ds (st + i * sz + lo)

def P1 (ds : List Int) : Bool := decide (2 ≤ ds.length) && ((bt ds 0 == 255) && (bt ds 1 == 254))
def P2 (ds : List Int) : Bool := decide (2 ≤ ds.length) && ((bt ds 0 == 254) && (bt ds 1 == 255))
def P3 (ds : List Int) : Bool := decide (3 ≤ ds.length) && ((bt ds 0 == 239) && ((bt ds 1 == 187) && (bt ds 2 == 191)))
def uSt (ds : List Int) : Nat := if P1 ds then 2 else if P2 ds then 2 else if P3 ds then 3 else 0
def uSz (ds : List Int) : Nat := if P1 ds then 2 else if P2 ds then 2 else 1
def uLo (ds : List Int) : Nat := if P1 ds then 0 else if P2 ds then 1 else 0
/-- the book's units -/
def uU (ds : List Int) : Nat → Int := asc ds (uSt ds) (uSz ds) (uLo ds)
def uLen (ds : List Int) : Nat := uN ds.length (uSt ds) (uSz ds)

/-! ### THE COUNT -/
/-- does the unit end an item's mark? -/
def sep (c : Int) : Bool := c == 32 || (c == 9 || (c == 13 || (c == 10 || c == 128)))
/-- how many units more the line break at unit i takes -/
def dI (u : Nat → Int) (i : Nat) : Nat := if u i = 13 ∧ u (i + 1) = 10 then 1 else 0
/-- how many values unit i opens -/
def dC (u : Nat → Int) (i : Nat) : Nat :=
  if u i = 45 then (if sep (u (i + 1)) then 1 else 0)
  else if u i = 91 then 1
  else if u i = 63 ∨ u i = 58 ∨ u i = 123 ∨ u i = 44 then 2 else 0
/-- does a line end at unit i? -/
def dL (u : Nat → Int) (i : Nat) : Nat := if u i = 13 ∨ u i = 10 then 1 else 0

/-- the loop: fuel, the unit, the count, the line; it answers the count, the unit at which the count has passed the limit, the line -/
def run (u : Nat → Int) (n : Nat) (limit : Int) : Nat → Nat → Nat → Nat → Nat × Option Nat × Nat
  | 0, _, c, l => (c, none, l)
  | f + 1, i, c, l =>
    if i < n then
      if limit < ((c + dC u i : Nat) : Int) then (c + dC u i, some (i + dI u i), l + dL u i)
      else run u n limit f (i + dI u i + 1) (c + dC u i) (l + dL u i)
    else (c, none, l)

/-- what countValues answers -/
def cv (ds : List Int) (limit : Int) : Nat × Option Nat × Nat := run (uU ds) (uLen ds) limit (uLen ds) 0 4 1
def atOf (st sz : Nat) : Option Nat → Int
  | none => -1
  | some i => ((st + i * sz : Nat) : Int)

theorem dC_le (u : Nat → Int) (i : Nat) : dC u i ≤ 2 := by unfold dC; (repeat' split) <;> omega
theorem dI_le (u : Nat → Int) (i : Nat) : dI u i ≤ 1 := by unfold dI; split <;> omega
theorem dL_le (u : Nat → Int) (i : Nat) : dL u i ≤ 1 := by unfold dL; split <;> omega

/-- at or past the end the loop is through, whatever the fuel -/
theorem run_end (u : Nat → Int) (n : Nat) (limit : Int) (f i c l : Nat) (h : n ≤ i) : run u n limit f i c l = (c, none, l) := by
  cases f with
  | zero => rfl
  | succ f => rw [run, if_neg (by omega)]
/-- fuel beyond what is left changes nothing -/
theorem run_fuel (u : Nat → Int) (n : Nat) (limit : Int) : ∀ (f g i c l : Nat), n ≤ i + f → n ≤ i + g → run u n limit f i c l = run u n limit g i c l := by
  intro f
  induction f with
  | zero => intro g i c l hf _; rw [run_end u n limit 0 i c l (by omega), run_end u n limit g i c l (by omega)]
  | succ f ih =>
    intro g i c l hf hg
    cases g with
    | zero => rw [run_end u n limit _ i c l (by omega), run_end u n limit 0 i c l (by omega)]
    | succ g =>
      rw [run, run]
      split
      · split
        · rfl
        · exact ih g _ _ _ (by omega) (by omega)
      · rfl
/-- one round -/
theorem run_step (u : Nat → Int) (n : Nat) (limit : Int) (i c l : Nat) (f g : Nat) (hf : n ≤ i + f) (hg : n ≤ i + dI u i + 1 + g) (h : i < n) (hc : ¬ limit < ((c + dC u i : Nat) : Int)) :
    run u n limit f i c l = run u n limit g (i + dI u i + 1) (c + dC u i) (l + dL u i) := by
  cases f with
  | zero => omega
  | succ f =>
    rw [run, if_pos h, if_neg hc]
    exact run_fuel u n limit _ _ _ _ _ (by omega) hg
theorem run_stop (u : Nat → Int) (n : Nat) (limit : Int) (i c l : Nat) (f : Nat) (hf : n ≤ i + f) (h : i < n) (hc : limit < ((c + dC u i : Nat) : Int)) :
    run u n limit f i c l = (c + dC u i, some (i + dI u i), l + dL u i) := by
  cases f with
  | zero => omega
  | succ f => rw [run, if_pos h, if_pos hc]

end Go.Proofs.Qxb6001236a.Plain
