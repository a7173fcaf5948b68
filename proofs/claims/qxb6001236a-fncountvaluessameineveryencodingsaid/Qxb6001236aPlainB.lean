import Derived.Test.Qxb6001236aPlain
/-! THE PLAIN LAW: the count adds over lines -/
namespace Go.Proofs.Qxb6001236a.Plain

/-- the loop without a limit -/
def runU (u : Nat → Int) (n : Nat) : Nat → Nat → Nat → Nat → Nat × Nat
  | 0, _, c, l => (c, l)
  | f + 1, i, c, l => if i < n then runU u n f (i + dI u i + 1) (c + dC u i) (l + dL u i) else (c, l)

theorem runU_end (u : Nat → Int) (n f i c l : Nat) (h : n ≤ i) : runU u n f i c l = (c, l) := by
  cases f with
  | zero => rfl
  | succ f => rw [runU, if_neg (by omega)]
theorem runU_fuel (u : Nat → Int) (n : Nat) : ∀ (f g i c l : Nat), n ≤ i + f → n ≤ i + g → runU u n f i c l = runU u n g i c l := by
  intro f
  induction f with
  | zero => intro g i c l hf _; rw [runU_end u n 0 i c l (by omega), runU_end u n g i c l (by omega)]
  | succ f ih =>
    intro g i c l hf hg
    cases g with
    | zero => rw [runU_end u n _ i c l (by omega), runU_end u n 0 i c l (by omega)]
    | succ g =>
      rw [runU, runU]
      split
      · exact ih g _ _ _ (by omega) (by omega)
      · rfl
/-- a limit that is never passed -/
theorem run_unl (u : Nat → Int) (n : Nat) (limit : Int) : ∀ (f i c l : Nat), ((c + 2 * (n - i) : Nat) : Int) ≤ limit → run u n limit f i c l = ((runU u n f i c l).1, none, (runU u n f i c l).2) := by
  intro f
  induction f with
  | zero => intro i c l _; rfl
  | succ f ih =>
    intro i c l h
    rw [run, runU]
    by_cases hi : i < n
    · have h2 := dC_le u i
      rw [if_pos hi, if_pos hi, if_neg (by omega)]
      exact ih _ _ _ (by omega)
    · rw [if_neg hi, if_neg hi]
/-- what has been counted before is carried along -/
theorem runU_add (u : Nat → Int) (n : Nat) : ∀ (f i c l c' l' : Nat), runU u n f i (c + c') (l + l') = ((runU u n f i c l).1 + c', (runU u n f i c l).2 + l') := by
  intro f
  induction f with
  | zero => intro i c l c' l'; rfl
  | succ f ih =>
    intro i c l c' l'
    rw [runU, runU]
    split
    · rw [← ih]; congr 1 <;> omega
    · rfl
/-- the bounds of the count and of the line -/
theorem runU_le (u : Nat → Int) (n : Nat) : ∀ (f i c l : Nat), c ≤ (runU u n f i c l).1 ∧ (runU u n f i c l).1 ≤ c + 2 * (n - i) ∧ l ≤ (runU u n f i c l).2 ∧ (runU u n f i c l).2 ≤ l + (n - i) := by
  intro f
  induction f with
  | zero => intro i c l; simp [runU]
  | succ f ih =>
    intro i c l
    rw [runU]
    split
    · have h1 := dC_le u i
      have h2 := dL_le u i
      have := ih (i + dI u i + 1) (c + dC u i) (l + dL u i)
      omega
    · simp

/-- units beyond the end are no characters -/
def Past (u : Nat → Int) (n : Nat) : Prop := ∀ i, n ≤ i → u i = 128
theorem dI_inside {u : Nat → Int} {n k : Nat} (hp : Past u n) (hk : k < n) : k + dI u k + 1 ≤ n := by
  by_cases h : u k = 13 ∧ u (k + 1) = 10
  · have : ¬ n ≤ k + 1 := fun g => by have := hp _ g; omega
    unfold dI; rw [if_pos h]; omega
  · unfold dI; rw [if_neg h]; omega

/-- two books that read alike up to nA, the first of which ends there -/
theorem runU_head (uA uJ : Nat → Int) (nA nJ : Nat) (hle : nA ≤ nJ) (hp : Past uA nA) (hC : ∀ k, k < nA → dC uJ k = dC uA k) (hI : ∀ k, k < nA → dI uJ k = dI uA k) (hL : ∀ k, k < nA → dL uJ k = dL uA k) :
    ∀ (f i c l g : Nat), i ≤ nA → nA ≤ i + f → nJ ≤ i + g → runU uJ nJ g i c l = runU uJ nJ nJ nA (runU uA nA f i c l).1 (runU uA nA f i c l).2 := by
  intro f
  induction f with
  | zero =>
    intro i c l g h1 h2 h3
    have : i = nA := by omega
    subst this
    exact runU_fuel uJ nJ _ _ _ _ _ h3 (by omega)
  | succ f ih =>
    intro i c l g h1 h2 h3
    by_cases hi : i < nA
    · cases g with
      | zero => omega
      | succ g =>
        rw [runU, if_pos (by omega), runU, if_pos hi, hC i hi, hI i hi, hL i hi]
        have := dI_inside hp hi
        exact ih _ _ _ _ this (by omega) (by omega)
    · have : i = nA := by omega
      subst this
      rw [runU_end uA _ _ _ _ _ (Nat.le_refl _)]
      exact runU_fuel uJ nJ _ _ _ _ _ h3 (by omega)
/-- a book that is the tail of another -/
theorem runU_tail (uB uJ : Nat → Int) (nB nJ m : Nat) (hn : nJ = m + nB) (hu : ∀ k, uJ (m + k) = uB k) : ∀ (f k c l : Nat), runU uJ nJ f (m + k) c l = runU uB nB f k c l := by
  intro f
  induction f with
  | zero => intro k c l; rfl
  | succ f ih =>
    intro k c l
    have e1 : dC uJ (m + k) = dC uB k := by unfold dC; rw [hu, show m + k + 1 = m + (k + 1) by omega, hu]
    have e2 : dI uJ (m + k) = dI uB k := by unfold dI; rw [hu, show m + k + 1 = m + (k + 1) by omega, hu]
    have e3 : dL uJ (m + k) = dL uB k := by unfold dL; rw [hu]
    rw [runU, runU, e1, e2, e3]
    by_cases h : k < nB
    · rw [if_pos (by omega), if_pos h, show m + k + dI uB k + 1 = m + (k + dI uB k + 1) by omega]
      exact ih _ _ _
    · rw [if_neg (by omega), if_neg h]

/-- a plain book: no byte order mark -/
theorem plain_open (ds : List Int) (h : ds = [] ∨ bt ds 0 < 128) : uSt ds = 0 ∧ uSz ds = 1 ∧ uLo ds = 0 := by
  have p1 : P1 ds = false := by
    rcases h with h | h
    · subst h; rfl
    · unfold P1; rw [show (bt ds 0 == 255) = false from beq_eq_false_iff_ne.2 (by omega)]; simp
  have p2 : P2 ds = false := by
    rcases h with h | h
    · subst h; rfl
    · unfold P2; rw [show (bt ds 0 == 254) = false from beq_eq_false_iff_ne.2 (by omega)]; simp
  have p3 : P3 ds = false := by
    rcases h with h | h
    · subst h; rfl
    · unfold P3; rw [show (bt ds 0 == 239) = false from beq_eq_false_iff_ne.2 (by omega)]; simp
  simp [uSt, uSz, uLo, p1, p2, p3]
/-- the units of a plain book -/
def pu (ds : List Int) (i : Nat) : Int := if ds.length ≤ i then 128 else if 128 ≤ bt ds i then 128 else bt ds i
theorem uU_plain (ds : List Int) (h : ds = [] ∨ bt ds 0 < 128) : uU ds = pu ds ∧ uLen ds = ds.length := by
  obtain ⟨h1, h2, h3⟩ := plain_open ds h
  have e : uLen ds = ds.length := by unfold uLen uN; rw [h1, h2]; simp
  refine ⟨?_, e⟩
  funext i
  unfold uU asc pu
  rw [h1, h2, h3]
  simp [uN]
theorem pu_past (ds : List Int) : Past (pu ds) ds.length := fun i hi => by unfold pu; rw [if_pos hi]

theorem bt_left (A B : List Int) (k : Nat) (h : k < A.length) : bt (A ++ B) k = bt A k := by
  unfold bt; simp [List.getD_eq_getElem?_getD, List.getElem?_append_left h]
theorem bt_right (A B : List Int) (k : Nat) : bt (A ++ B) (A.length + k) = bt B k := by
  unfold bt; simp [List.getD_eq_getElem?_getD, List.getElem?_append_right (Nat.le_add_right _ _)]
theorem bt_cons (x : Int) (B : List Int) (k : Nat) : bt (x :: B) (k + 1) = bt B k := by unfold bt; simp

theorem join_left (A B : List Int) (k : Nat) (h : k < A.length) : pu (A ++ 10 :: B) k = pu A k := by
  unfold pu; rw [bt_left _ _ _ h, if_neg (show ¬ (A ++ 10 :: B).length ≤ k by simp; omega), if_neg (show ¬ A.length ≤ k by omega)]
theorem join_mid (A B : List Int) : pu (A ++ 10 :: B) A.length = 10 := by
  have : bt (A ++ 10 :: B) A.length = 10 := bt_right A (10 :: B) 0
  unfold pu; rw [this, if_neg (by simp), if_neg (by omega)]
theorem join_right (A B : List Int) (k : Nat) : pu (A ++ 10 :: B) (A.length + 1 + k) = pu B k := by
  have : bt (A ++ 10 :: B) (A.length + 1 + k) = bt B k := by
    rw [show A.length + 1 + k = A.length + (k + 1) by omega, bt_right, bt_cons]
  unfold pu
  rw [this]
  by_cases h : B.length ≤ k
  · rw [if_pos h, if_pos (by simp; omega)]
  · rw [if_neg h, if_neg (by simp; omega)]

/-- THE PLAIN LAW -/
theorem cv_join (A B : List Int) (limit : Int) (hA : A = [] ∨ bt A 0 < 128) (hB : B = [] ∨ bt B 0 < 128) (hcr : A = [] ∨ bt A (A.length - 1) ≠ 13) (hbig : ((4 + 2 * (A.length + 1 + B.length) : Nat) : Int) ≤ limit) :
    ∃ ca la cb lb : Nat, cv A limit = (ca, none, la) ∧ cv B limit = (cb, none, lb) ∧ cv (A ++ 10 :: B) limit = (ca + cb - 4, none, la + lb) ∧ 4 ≤ ca ∧ 4 ≤ cb ∧ ca ≤ 4 + 2 * A.length ∧ cb ≤ 4 + 2 * B.length ∧ la ≤ 1 + A.length ∧ lb ≤ 1 + B.length := by
  have hJ : A ++ 10 :: B = [] ∨ bt (A ++ 10 :: B) 0 < 128 := by
    right
    cases A with
    | nil => show (10 : Int) < 128; omega
    | cons x A =>
      have : bt (x :: A) 0 < 128 := by rcases hA with h | h; simp at h; exact h
      exact this
  obtain ⟨uA, nA⟩ := uU_plain A hA
  obtain ⟨uB, nB⟩ := uU_plain B hB
  obtain ⟨uJ, nJ⟩ := uU_plain (A ++ 10 :: B) hJ
  have lJ : (A ++ 10 :: B).length = A.length + 1 + B.length := by simp; omega
  have eA : cv A limit = ((runU (pu A) A.length A.length 0 4 1).1, none, (runU (pu A) A.length A.length 0 4 1).2) := by
    unfold cv; rw [uA, nA]; exact run_unl _ _ _ _ _ _ _ (by omega)
  have eB : cv B limit = ((runU (pu B) B.length B.length 0 4 1).1, none, (runU (pu B) B.length B.length 0 4 1).2) := by
    unfold cv; rw [uB, nB]; exact run_unl _ _ _ _ _ _ _ (by omega)
  have eJ : cv (A ++ 10 :: B) limit = ((runU (pu (A ++ 10 :: B)) (A ++ 10 :: B).length (A ++ 10 :: B).length 0 4 1).1, none, (runU (pu (A ++ 10 :: B)) (A ++ 10 :: B).length (A ++ 10 :: B).length 0 4 1).2) := by
    unfold cv; rw [uJ, nJ]; exact run_unl _ _ _ _ _ _ _ (by omega)
  have last : ∀ k, k < A.length → ¬ k + 1 < A.length → pu A k ≠ 13 := by
    intro k h1 h2 h3
    have : k = A.length - 1 := by omega
    subst this
    rcases hcr with h | h
    · rw [h] at h1; simp at h1
    · unfold pu at h3; rw [if_neg (by omega)] at h3; split at h3 <;> omega
  have key := runU_head (pu A) (pu (A ++ 10 :: B)) A.length (A ++ 10 :: B).length (by omega) (pu_past A)
    (fun k hk => by
      unfold dC
      rw [join_left A B k hk]
      by_cases h : k + 1 < A.length
      · rw [join_left A B (k + 1) h]
      · have e : k + 1 = A.length := by omega
        rw [e, join_mid, pu_past A _ (Nat.le_refl _)]; rfl)
    (fun k hk => by
      unfold dI
      rw [join_left A B k hk]
      by_cases h : k + 1 < A.length
      · rw [join_left A B (k + 1) h]
      · rw [if_neg (fun x => last k hk h x.1), if_neg (fun x => last k hk h x.1)])
    (fun k hk => by unfold dL; rw [join_left A B k hk])
    A.length 0 4 1 (A ++ 10 :: B).length (by omega) (by omega) (by omega)
  have bA := runU_le (pu A) A.length A.length 0 4 1
  have bB := runU_le (pu B) B.length B.length 0 4 1
  generalize hca : (runU (pu A) A.length A.length 0 4 1).1 = ca at *
  generalize hla : (runU (pu A) A.length A.length 0 4 1).2 = la at *
  have step : runU (pu (A ++ 10 :: B)) (A ++ 10 :: B).length (A ++ 10 :: B).length A.length ca la = runU (pu (A ++ 10 :: B)) (A ++ 10 :: B).length B.length (A.length + 1 + 0) ca (la + 1) := by
    have m := join_mid A B
    have d1 : dC (pu (A ++ 10 :: B)) A.length = 0 := by unfold dC; rw [m]; rfl
    have d2 : dI (pu (A ++ 10 :: B)) A.length = 0 := by unfold dI; rw [m]; rfl
    have d3 : dL (pu (A ++ 10 :: B)) A.length = 1 := by unfold dL; rw [m]; rfl
    conv => lhs; rw [show (A ++ 10 :: B).length = (A.length + B.length) + 1 by omega]
    rw [runU, if_pos (by omega), d1, d2, d3]
    rw [show (A.length + B.length) + 1 = (A ++ 10 :: B).length by omega]
    exact runU_fuel _ _ _ _ _ _ _ (by omega) (by omega)
  have tail := runU_tail (pu B) (pu (A ++ 10 :: B)) B.length (A ++ 10 :: B).length (A.length + 1) (by omega) (fun k => join_right A B k) B.length 0 ca (la + 1)
  have add := runU_add (pu B) B.length B.length 0 4 1 (ca - 4) la
  rw [show 4 + (ca - 4) = ca by omega, show 1 + la = la + 1 by omega] at add
  rw [key, step, tail, add] at eJ
  refine ⟨ca, la, _, _, eA, eB, ?_, by omega, by omega, by omega, by omega, by omega, by omega⟩
  rw [eJ]
  congr 1
  · show _ = _
    omega
  · congr 1
    show _ = _
    omega
end Go.Proofs.Qxb6001236a.Plain
