/-
  THE PLAIN FUNCTIONS OF THE SEAT: no Go in sight: a text escaped as the body of a JSON string, and the reader that skips it.
-/
namespace Go.Proofs.Qxb6600795a.Plain

/-- the byte at a place (0 beyond the end) -/
def bt (ds : List Int) (k : Nat) : Int := ds.getD k 0
/-- a hexadecimal digit's code -/
def hx (n : Int) : Int := if n < 10 then 48 + n else 87 + n
/-- a byte, escaped -/
def escC (c : Int) : List Int :=
  if c = 34 then [92, 34] else if c = 92 then [92, 92] else if c < 32 then [92, 117, 48, 48, hx (c / 16), hx (c % 16)] else [c]
/-- a text, escaped -/
def esc : List Int → List Int
  | [] => []
  | c :: r => escC c ++ esc r
theorem esc_app (A B : List Int) : esc (A ++ B) = esc A ++ esc B := by
  induction A with
  | nil => rfl
  | cons c r ih => simp [esc, ih]
theorem escC_len (c : Int) : (escC c).length ≤ 6 := by unfold escC; (repeat' split) <;> simp
theorem esc_len (A : List Int) : (esc A).length ≤ 6 * A.length := by
  induction A with
  | nil => simp [esc]
  | cons c r ih => have := escC_len c; simp [esc]; omega

/-- how many bytes there are up to and with the closing quote -/
def sk : List Int → Option Nat
  | [] => none
  | [c] => if c = 34 then some 1 else none
  | c :: d :: r => if c = 34 then some 1 else if c = 92 then (sk r).map (· + 2) else (sk (d :: r)).map (· + 1)

theorem sk_quote (r : List Int) : sk (34 :: r) = some 1 := by
  cases r with
  | nil => rfl
  | cons d r => rfl
theorem sk_back (d : Int) (r : List Int) : sk (92 :: d :: r) = (sk r).map (· + 2) := by rw [sk, if_neg (by omega), if_pos rfl]
theorem sk_plain (c : Int) (r : List Int) (h1 : c ≠ 34) (h2 : c ≠ 92) (hr : r ≠ []) : sk (c :: r) = (sk r).map (· + 1) := by
  cases r with
  | nil => exact absurd rfl hr
  | cons d r => rw [sk, if_neg h1, if_neg h2]
theorem hx_ne (n : Int) (h : 0 ≤ n ∧ n < 16) : hx n ≠ 34 ∧ hx n ≠ 92 ∧ 0 ≤ hx n ∧ hx n ≤ 255 := by
  unfold hx; split <;> omega

/-- THE PLAIN LAW: an escaped text is skipped whole -/
theorem sk_esc (A T : List Int) (h : ∀ x ∈ A, 0 ≤ x ∧ x ≤ 255) : sk (esc A ++ 34 :: T) = some ((esc A).length + 1) := by
  induction A with
  | nil => exact sk_quote T
  | cons c r ih =>
    have ih' := ih (fun x hx => h x (by simp [hx]))
    have hc := h c (by simp)
    have hne : esc r ++ 34 :: T ≠ [] := by simp
    show sk (escC c ++ esc r ++ 34 :: T) = some ((escC c ++ esc r).length + 1)
    rw [List.append_assoc, List.length_append]
    generalize esc r ++ 34 :: T = R at ih' hne
    unfold escC
    by_cases c1 : c = 34
    · rw [if_pos c1]
      show sk (92 :: 34 :: R) = _
      rw [sk_back, ih']; simp; omega
    · rw [if_neg c1]
      by_cases c2 : c = 92
      · rw [if_pos c2]
        show sk (92 :: 92 :: R) = _
        rw [sk_back, ih']; simp; omega
      · rw [if_neg c2]
        by_cases c3 : c < 32
        · rw [if_pos c3]
          have a := hx_ne (c / 16) (by omega)
          have b := hx_ne (c % 16) (by omega)
          show sk (92 :: 117 :: 48 :: 48 :: hx (c / 16) :: hx (c % 16) :: R) = _
          rw [sk_back, sk_plain 48 _ (by omega) (by omega) (by simp), sk_plain 48 _ (by omega) (by omega) (by simp), sk_plain _ _ a.1 a.2.1 (by simp), sk_plain _ _ b.1 b.2.1 hne, ih']
          simp; omega
        · rw [if_neg c3]
          show sk (c :: R) = _
          rw [sk_plain _ _ c1 c2 hne, ih']; simp; omega

/-! the reader's steps -/
theorem drop_bt (D : List Int) (k : Nat) (h : k < D.length) : D.drop k = bt D k :: D.drop (k + 1) := by
  rw [List.drop_eq_getElem_cons h]
  simp [bt, h]
theorem sk_in (D : List Int) (k m : Nat) (h : sk (D.drop k) = some m) : k < D.length := by
  rcases Nat.lt_or_ge k D.length with g | g
  · exact g
  · rw [List.drop_eq_nil_of_le g] at h; cases h
theorem sk_at34 (D : List Int) (k m : Nat) (h : sk (D.drop k) = some m) (hc : bt D k = 34) : m = 1 := by
  rw [drop_bt D k (sk_in D k m h), hc, sk_quote] at h
  cases h; rfl
theorem sk_at92 (D : List Int) (k m : Nat) (h : sk (D.drop k) = some m) (hc : bt D k = 92) : ∃ m', m = m' + 2 ∧ sk (D.drop (k + 1 + 1)) = some m' ∧ k + 1 < D.length := by
  have hk := sk_in D k m h
  rw [drop_bt D k hk, hc] at h
  rcases Nat.lt_or_ge (k + 1) D.length with g | g
  · rw [drop_bt D (k + 1) g, sk_back] at h
    cases e : sk (D.drop (k + 1 + 1)) with
    | none => rw [e] at h; cases h
    | some m' => rw [e] at h; cases h; exact ⟨m', rfl, rfl, g⟩
  · rw [List.drop_eq_nil_of_le g] at h
    simp [sk] at h
theorem sk_at (D : List Int) (k m : Nat) (h : sk (D.drop k) = some m) (h1 : bt D k ≠ 34) (h2 : bt D k ≠ 92) : ∃ m', m = m' + 1 ∧ sk (D.drop (k + 1)) = some m' := by
  have hk := sk_in D k m h
  rw [drop_bt D k hk] at h
  rcases Nat.lt_or_ge (k + 1) D.length with g | g
  · rw [sk_plain _ _ h1 h2 (by rw [drop_bt D (k + 1) g]; simp)] at h
    cases e : sk (D.drop (k + 1)) with
    | none => rw [e] at h; cases h
    | some m' => rw [e] at h; cases h; exact ⟨m', rfl, rfl⟩
  · rw [List.drop_eq_nil_of_le g] at h
    simp [sk, h1] at h
end Go.Proofs.Qxb6600795a.Plain
