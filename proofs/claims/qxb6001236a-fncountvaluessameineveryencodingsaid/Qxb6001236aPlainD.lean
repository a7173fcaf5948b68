import Derived.Test.Qxb6001236aPlainB
/-! THE PLAIN LAW: an ASCII book counts the same in every encoding -/
namespace Go.Proofs.Qxb6001236a.Plain

/-- each byte, then a zero -/
def il0 : List Int → List Int
  | [] => []
  | x :: r => x :: 0 :: il0 r
/-- each byte behind a zero -/
def il1 : List Int → List Int
  | [] => []
  | x :: r => 0 :: x :: il1 r
theorem il0_len (A : List Int) : (il0 A).length = 2 * A.length := by induction A with | nil => rfl | cons x r ih => simp [il0, ih]; omega
theorem il1_len (A : List Int) : (il1 A).length = 2 * A.length := by induction A with | nil => rfl | cons x r ih => simp [il1, ih]; omega
theorem il0_app (A B : List Int) : il0 (A ++ B) = il0 A ++ il0 B := by induction A with | nil => rfl | cons x r ih => simp [il0, ih]
theorem il1_app (A B : List Int) : il1 (A ++ B) = il1 A ++ il1 B := by induction A with | nil => rfl | cons x r ih => simp [il1, ih]
theorem bt_nil (k : Nat) : bt [] k = 0 := by unfold bt; simp
theorem bt_zero (x : Int) (r : List Int) : bt (x :: r) 0 = x := rfl
theorem bt_cons2 (x y : Int) (r : List Int) (k : Nat) : bt (x :: y :: r) (k + 2) = bt r k := by unfold bt; simp
theorem il0_at (A : List Int) : ∀ i, bt (il0 A) (2 * i) = bt A i ∧ bt (il0 A) (2 * i + 1) = 0 := by
  induction A with
  | nil => intro i; simp [il0, bt_nil]
  | cons x r ih =>
    intro i
    cases i with
    | zero => exact ⟨rfl, rfl⟩
    | succ i =>
      rw [il0, show 2 * (i + 1) + 1 = (2 * i + 1) + 2 by omega, show 2 * (i + 1) = 2 * i + 2 by omega, bt_cons2, bt_cons2, bt_cons]
      exact ih i
theorem il1_at (A : List Int) : ∀ i, bt (il1 A) (2 * i) = 0 ∧ bt (il1 A) (2 * i + 1) = bt A i := by
  induction A with
  | nil => intro i; simp [il1, bt_nil]
  | cons x r ih =>
    intro i
    cases i with
    | zero => exact ⟨rfl, rfl⟩
    | succ i =>
      rw [il1, show 2 * (i + 1) + 1 = (2 * i + 1) + 2 by omega, show 2 * (i + 1) = 2 * i + 2 by omega, bt_cons2, bt_cons2, bt_cons]
      exact ih i

/-- an ASCII book -/
def Ascii (A : List Int) : Prop := ∀ i, 0 ≤ bt A i ∧ bt A i ≤ 127

def enc1 (A : List Int) : List Int := 255 :: 254 :: il0 A
def enc2 (A : List Int) : List Int := 254 :: 255 :: il1 A
def enc3 (A : List Int) : List Int := 239 :: 187 :: 191 :: A

theorem range_cons (x : Int) (A : List Int) (hx : 0 ≤ x ∧ x ≤ 255) (h : ∀ i, 0 ≤ bt A i ∧ bt A i ≤ 255) : ∀ i, 0 ≤ bt (x :: A) i ∧ bt (x :: A) i ≤ 255 := by
  intro i
  cases i with
  | zero => exact hx
  | succ i => rw [bt_cons]; exact h i
theorem il0_range (A : List Int) (h : Ascii A) : ∀ i, 0 ≤ bt (il0 A) i ∧ bt (il0 A) i ≤ 255 := by
  intro i
  rcases (show (∃ m, i = 2 * m) ∨ ∃ m, i = 2 * m + 1 from by rcases Nat.mod_two_eq_zero_or_one i with e | e; exact .inl ⟨i / 2, by omega⟩; exact .inr ⟨i / 2, by omega⟩) with ⟨m, rfl⟩ | ⟨m, rfl⟩
  · rw [(il0_at A m).1]; have := h m; omega
  · rw [(il0_at A m).2]; omega
theorem il1_range (A : List Int) (h : Ascii A) : ∀ i, 0 ≤ bt (il1 A) i ∧ bt (il1 A) i ≤ 255 := by
  intro i
  rcases (show (∃ m, i = 2 * m) ∨ ∃ m, i = 2 * m + 1 from by rcases Nat.mod_two_eq_zero_or_one i with e | e; exact .inl ⟨i / 2, by omega⟩; exact .inr ⟨i / 2, by omega⟩) with ⟨m, rfl⟩ | ⟨m, rfl⟩
  · rw [(il1_at A m).1]; omega
  · rw [(il1_at A m).2]; have := h m; omega
theorem enc1_range (A : List Int) (h : Ascii A) : ∀ i, 0 ≤ bt (enc1 A) i ∧ bt (enc1 A) i ≤ 255 := range_cons _ _ (by omega) (range_cons _ _ (by omega) (il0_range A h))
theorem enc2_range (A : List Int) (h : Ascii A) : ∀ i, 0 ≤ bt (enc2 A) i ∧ bt (enc2 A) i ≤ 255 := range_cons _ _ (by omega) (range_cons _ _ (by omega) (il1_range A h))
theorem enc3_range (A : List Int) (h : Ascii A) : ∀ i, 0 ≤ bt (enc3 A) i ∧ bt (enc3 A) i ≤ 255 := range_cons _ _ (by omega) (range_cons _ _ (by omega) (range_cons _ _ (by omega) (fun i => by have := h i; omega)))

/-- the units of an ASCII book -/
theorem pu_ascii (A : List Int) (h : Ascii A) (i : Nat) : pu A i = if A.length ≤ i then 128 else bt A i := by
  unfold pu
  split
  · rfl
  · rw [if_neg (by have := h i; omega)]

theorem cv_same (A E : List Int) (limit : Int) (hu : uU E = uU A) (hn : uLen E = uLen A) : cv E limit = cv A limit := by unfold cv; rw [hu, hn]

theorem ascii_open (A : List Int) (h : Ascii A) : A = [] ∨ bt A 0 < 128 := .inr (by have := h 0; omega)
theorem same0 (A : List Int) (h : Ascii A) : uU A = pu A ∧ uLen A = A.length := uU_plain A (ascii_open A h)

theorem same1 (A : List Int) (h : Ascii A) (limit : Int) : cv (enc1 A) limit = cv A limit ∧ uSt (enc1 A) = 2 ∧ uSz (enc1 A) = 2 := by
  have p1 : P1 (enc1 A) = true := by unfold P1 enc1; simp [bt]
  have s1 : uSt (enc1 A) = 2 := by unfold uSt; rw [p1]; rfl
  have s2 : uSz (enc1 A) = 2 := by unfold uSz; rw [p1]; rfl
  have s3 : uLo (enc1 A) = 0 := by unfold uLo; rw [p1]; rfl
  have ln : (enc1 A).length = 2 + 2 * A.length := by unfold enc1; simp [il0_len]; omega
  have hN : uN (enc1 A).length 2 2 = A.length := by unfold uN; rw [ln]; omega
  obtain ⟨e1, e2⟩ := same0 A h
  refine ⟨cv_same A _ limit ?_ ?_, s1, s2⟩
  · rw [e1]
    funext i
    rw [pu_ascii A h]
    unfold uU
    rw [s1, s2, s3]
    unfold asc
    rw [hN]
    by_cases hi : A.length ≤ i
    · rw [if_pos hi, if_pos hi]
    · have b1 : bt (enc1 A) (2 + i * 2 + 0) = bt A i := by
        unfold enc1; rw [show 2 + i * 2 + 0 = 2 * i + 1 + 1 by omega, bt_cons, bt_cons]; exact (il0_at A i).1
      have b2 : bt (enc1 A) (2 + i * 2 + 0 + 1 - 2 * 0) = 0 := by
        unfold enc1; rw [show 2 + i * 2 + 0 + 1 - 2 * 0 = (2 * i + 1) + 1 + 1 by omega, bt_cons, bt_cons]; exact (il0_at A i).2
      have := h i
      rw [if_neg hi, if_neg hi, b1, b2, if_neg (by omega), if_neg (by omega)]
  · rw [e2]; unfold uLen; rw [s1, s2, hN]
theorem same2 (A : List Int) (h : Ascii A) (limit : Int) : cv (enc2 A) limit = cv A limit ∧ uSt (enc2 A) = 2 ∧ uSz (enc2 A) = 2 := by
  have p1 : P1 (enc2 A) = false := by unfold P1 enc2; simp [bt]
  have p2 : P2 (enc2 A) = true := by unfold P2 enc2; simp [bt]
  have s1 : uSt (enc2 A) = 2 := by unfold uSt; rw [p1, p2]; rfl
  have s2 : uSz (enc2 A) = 2 := by unfold uSz; rw [p1, p2]; rfl
  have s3 : uLo (enc2 A) = 1 := by unfold uLo; rw [p1, p2]; rfl
  have ln : (enc2 A).length = 2 + 2 * A.length := by unfold enc2; simp [il1_len]; omega
  have hN : uN (enc2 A).length 2 2 = A.length := by unfold uN; rw [ln]; omega
  obtain ⟨e1, e2⟩ := same0 A h
  refine ⟨cv_same A _ limit ?_ ?_, s1, s2⟩
  · rw [e1]
    funext i
    rw [pu_ascii A h]
    unfold uU
    rw [s1, s2, s3]
    unfold asc
    rw [hN]
    by_cases hi : A.length ≤ i
    · rw [if_pos hi, if_pos hi]
    · have b1 : bt (enc2 A) (2 + i * 2 + 1) = bt A i := by
        unfold enc2; rw [show 2 + i * 2 + 1 = (2 * i + 1) + 1 + 1 by omega, bt_cons, bt_cons]; exact (il1_at A i).2
      have b2 : bt (enc2 A) (2 + i * 2 + 1 + 1 - 2 * 1) = 0 := by
        unfold enc2; rw [show 2 + i * 2 + 1 + 1 - 2 * 1 = 2 * i + 1 + 1 by omega, bt_cons, bt_cons]; exact (il1_at A i).1
      have := h i
      rw [if_neg hi, if_neg hi, b1, b2, if_neg (by omega), if_neg (by omega)]
  · rw [e2]; unfold uLen; rw [s1, s2, hN]
theorem same3 (A : List Int) (h : Ascii A) (limit : Int) : cv (enc3 A) limit = cv A limit ∧ uSt (enc3 A) = 3 ∧ uSz (enc3 A) = 1 := by
  have p1 : P1 (enc3 A) = false := by unfold P1 enc3; simp [bt]
  have p2 : P2 (enc3 A) = false := by unfold P2 enc3; simp [bt]
  have p3 : P3 (enc3 A) = true := by unfold P3 enc3; simp [bt]
  have s1 : uSt (enc3 A) = 3 := by unfold uSt; rw [p1, p2, p3]; rfl
  have s2 : uSz (enc3 A) = 1 := by unfold uSz; rw [p1, p2]; rfl
  have s3 : uLo (enc3 A) = 0 := by unfold uLo; rw [p1, p2]; rfl
  have ln : (enc3 A).length = 3 + A.length := by unfold enc3; simp; omega
  have hN : uN (enc3 A).length 3 1 = A.length := by unfold uN; rw [ln]; omega
  obtain ⟨e1, e2⟩ := same0 A h
  refine ⟨cv_same A _ limit ?_ ?_, s1, s2⟩
  · rw [e1]
    funext i
    rw [pu_ascii A h]
    unfold uU
    rw [s1, s2, s3]
    unfold asc
    rw [hN]
    by_cases hi : A.length ≤ i
    · rw [if_pos hi, if_pos hi]
    · have b1 : bt (enc3 A) (3 + i * 1 + 0) = bt A i := by
        unfold enc3; rw [show 3 + i * 1 + 0 = i + 1 + 1 + 1 by omega, bt_cons, bt_cons, bt_cons]
      have := h i
      rw [if_neg hi, if_neg hi, b1, if_neg (by omega), if_neg (by omega)]
  · rw [e2]; unfold uLen; rw [s1, s2, hN]

/-- the bounds of what countValues answers -/
theorem cv_bounds (ds : List Int) (limit : Int) : ∀ (f i c l : Nat), (run (uU ds) (uLen ds) limit f i c l).1 ≤ c + 2 * f ∧ (run (uU ds) (uLen ds) limit f i c l).2.2 ≤ l + f ∧ ∀ j, (run (uU ds) (uLen ds) limit f i c l).2.1 = some j → j ≤ uLen ds := by
  intro f
  induction f with
  | zero => intro i c l; simp [run]
  | succ f ih =>
    intro i c l
    rw [run]
    have h1 := dC_le (uU ds) i
    have h2 := dL_le (uU ds) i
    have h3 := dI_le (uU ds) i
    split
    · split
      · refine ⟨by simp; omega, by simp; omega, fun j hj => ?_⟩
        simp at hj; omega
      · have := ih (i + dI (uU ds) i + 1) (c + dC (uU ds) i) (l + dL (uU ds) i)
        exact ⟨by omega, by omega, this.2.2⟩
    · exact ⟨by simp, by simp, fun j hj => by simp at hj⟩
end Go.Proofs.Qxb6001236a.Plain
