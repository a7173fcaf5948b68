import Derived.Test.Qxb6001027aPlain
/-! WHAT repeatCount HAS READ, TAKEN APART: no Go in sight -/
namespace Go.Proofs.Qxb6001027a.Plain

theorem batx_left (p q : List UInt8) (k : Nat) (h : k < p.length) : bat (p ++ q) k = bat p k := by
  unfold bat; simp [List.getD_eq_getElem?_getD, List.getElem?_append_left h]
theorem batx_right (p q : List UInt8) (k : Nat) : bat (p ++ q) (p.length + k) = bat q k := by
  unfold bat; simp [List.getD_eq_getElem?_getD, List.getElem?_append_right (Nat.le_add_right _ _)]
theorem batx_cons (c : UInt8) (q : List UInt8) (k : Nat) : bat (c :: q) (k + 1) = bat q k := by
  unfold bat; simp

/-- all of them digits -/
def AllD (l : List UInt8) : Prop := ∀ x ∈ l, isD x = true
/-- a number with a leading zero -/
def zl (D : List UInt8) : Bool := decide (1 < D.length) && (bat D 0 == 48)

theorem allD_takeWhile (l : List UInt8) : AllD (l.takeWhile isD) := by
  intro x hx
  induction l with
  | nil => simp at hx
  | cons c l ih =>
    rw [List.takeWhile_cons] at hx
    split at hx
    · rcases List.mem_cons.1 hx with h | h
      · subst h; assumption
      · exact ih h
    · simp at hx
theorem dEnd_app (p D R : List UInt8) (h : R = [] ∨ isDig (bat R 0) = false) (hD : AllD D) : dEnd (p ++ (D ++ R)) p.length = p.length + D.length := by
  unfold dEnd
  rw [List.drop_left]
  have : (D ++ R).takeWhile isD = D := by
    rw [List.takeWhile_append_of_pos hD]
    cases R with
    | nil => simp
    | cons c q =>
      have : isD c = false := by rcases h with h | h; simp at h; exact h
      simp [this]
  rw [this]
theorem lz_app (p D R : List UInt8) (h : R = [] ∨ isDig (bat R 0) = false) (hD : AllD D) : lzAt (p ++ (D ++ R)) p.length = zl D := by
  unfold lzAt zl
  rw [dEnd_app p D R h hD, show p.length = p.length + 0 from rfl, batx_right]
  by_cases h1 : 1 < D.length
  · rw [batx_left D R 0 (by omega), decide_eq_true h1, decide_eq_true (by omega)]
  · rw [decide_eq_false h1, decide_eq_false (by omega)]; rfl
theorem cut_digits (l : List UInt8) : ∃ D R, l = D ++ R ∧ AllD D ∧ (R = [] ∨ isDig (bat R 0) = false) := by
  refine ⟨l.takeWhile isD, l.dropWhile isD, List.takeWhile_append_dropWhile.symm, allD_takeWhile l, ?_⟩
  induction l with
  | nil => left; rfl
  | cons c l ih =>
    rw [List.dropWhile_cons]
    split
    · exact ih
    · rename_i h; right
      show isD c = false
      simpa using h

/-- a count, taken apart: the first byte, the first number, (a comma and the second number,) the closing brace, the rest -/
theorem cOk_parts (l : List UInt8) (h : cOk l = true) :
    (∃ c A rest, l = c :: (A ++ 125 :: rest) ∧ A ≠ [] ∧ AllD A ∧ rcN l = ((A.length + 2 : Nat) : Int) ∧ rcZ l = zl A) ∨
    (∃ c A B rest, l = c :: (A ++ 44 :: (B ++ 125 :: rest)) ∧ A ≠ [] ∧ AllD A ∧ AllD B ∧ rcN l = ((A.length + B.length + 3 : Nat) : Int) ∧ rcZ l = (zl A || zl B)) := by
  cases l with
  | nil => simp [cOk, dEnd] at h
  | cons c l =>
    obtain ⟨A, R, rfl, hA, hR⟩ := cut_digits l
    have e1 : dEnd (c :: (A ++ R)) 1 = 1 + A.length := dEnd_app [c] A R hR hA
    have z1 : lzAt (c :: (A ++ R)) 1 = zl A := lz_app [c] A R hR hA
    have b1 : bat (c :: (A ++ R)) (1 + A.length) = bat R 0 := by
      rw [Nat.add_comm, batx_cons, show A.length = A.length + 0 from rfl, batx_right]
    have hl : (c :: (A ++ R)).length = 1 + A.length + R.length := by simp; omega
    have hA0 : A ≠ [] := by
      intro h0
      have : dEnd (c :: (A ++ R)) 1 = 1 := by rw [e1, h0]; rfl
      simp [cOk, this] at h
    have hrcZ : rcZ (c :: (A ++ R)) = cZ (c :: (A ++ R)) := by unfold rcZ; rw [h]; rfl
    have hrcN : rcN (c :: (A ++ R)) = ((cEnd (c :: (A ++ R)) : Nat) : Int) + 1 := by unfold rcN; rw [h]; rfl
    have h' := h
    unfold cOk at h'
    simp only [Bool.and_eq_true, decide_eq_true_eq, beq_iff_eq] at h'
    obtain ⟨_, h2, h3⟩ := h'
    by_cases hc : 1 + A.length < (c :: (A ++ R)).length ∧ bat R 0 = 44
    · cases R with
      | nil => simp at hc; omega
      | cons d R =>
        have hd : d = 44 := by
          have : (d.toNat : Int) = 44 := hc.2
          exact UInt8.toNat_inj.1 (by simp; omega)
        subst hd
        obtain ⟨B, S, rfl, hB, hS⟩ := cut_digits R
        have er : c :: (A ++ 44 :: (B ++ S)) = (c :: (A ++ [44])) ++ (B ++ S) := by simp
        have ln : (c :: (A ++ [44])).length = 1 + A.length + 1 := by simp; omega
        have e2 : dEnd (c :: (A ++ 44 :: (B ++ S))) (1 + A.length + 1) = 1 + A.length + 1 + B.length := by
          have := dEnd_app (c :: (A ++ [44])) B S hS hB
          rw [← er, ln] at this; exact this
        have z2 : lzAt (c :: (A ++ 44 :: (B ++ S))) (1 + A.length + 1) = zl B := by
          have := lz_app (c :: (A ++ [44])) B S hS hB
          rw [← er, ln] at this; exact this
        have ce : cEnd (c :: (A ++ 44 :: (B ++ S))) = 1 + A.length + 1 + B.length := by
          unfold cEnd; rw [e1, b1, if_pos hc, e2]
        have cz : cZ (c :: (A ++ 44 :: (B ++ S))) = (zl A || zl B) := by
          unfold cZ; rw [e1, b1, z1, z2, decide_eq_true hc]; simp
        rw [ce] at h2 h3 hrcN
        have b2 : bat (c :: (A ++ 44 :: (B ++ S))) (1 + A.length + 1 + B.length) = bat S 0 := by
          have := batx_right ((c :: (A ++ [44])) ++ B) S 0
          rw [show ((c :: (A ++ [44])) ++ B).length + 0 = 1 + A.length + 1 + B.length by simp; omega] at this
          rw [show ((c :: (A ++ [44])) ++ B) ++ S = c :: (A ++ 44 :: (B ++ S)) by simp] at this
          exact this
        rw [b2] at h3
        cases S with
        | nil => exact absurd (by simp; omega) h2
        | cons d S =>
          have hd : d = 125 := by
            have : (d.toNat : Int) = 125 := h3
            exact UInt8.toNat_inj.1 (by simp; omega)
          subst hd
          exact .inr ⟨c, A, B, S, rfl, hA0, hA, hB, by rw [hrcN]; omega, by rw [hrcZ, cz]⟩
    · have ce : cEnd (c :: (A ++ R)) = 1 + A.length := by unfold cEnd; rw [e1, b1, if_neg hc]
      have cz : cZ (c :: (A ++ R)) = zl A := by
        unfold cZ; rw [e1, b1, z1, decide_eq_false hc]; simp
      rw [ce] at h2 h3 hrcN
      rw [b1] at h3
      cases R with
      | nil => exact absurd (by simp; omega) h2
      | cons d R =>
        have hd : d = 125 := by
          have : (d.toNat : Int) = 125 := h3
          exact UInt8.toNat_inj.1 (by simp; omega)
        subst hd
        exact .inl ⟨c, A, R, rfl, hA0, hA, by rw [hrcN]; omega, by rw [hrcZ, cz]⟩

end Go.Proofs.Qxb6001027a.Plain
