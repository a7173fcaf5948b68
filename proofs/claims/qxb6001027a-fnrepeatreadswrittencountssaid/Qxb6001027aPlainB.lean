import Derived.Test.Qxb6001027aWalkD
namespace Go.Proofs.Qxb6001027a.Walks
open Go.Proofs.Qxb6001027a.Plain

/-! THE PLAIN LAW: a written count is read whole -/
theorem bat_app_left (p q : List UInt8) (k : Nat) (h : k < p.length) : bat (p ++ q) k = bat p k := by
  unfold bat; simp [List.getD_eq_getElem?_getD, List.getElem?_append_left h]
theorem bat_app_right (p q : List UInt8) (k : Nat) : bat (p ++ q) (p.length + k) = bat q k := by
  unfold bat; simp [List.getD_eq_getElem?_getD, List.getElem?_append_right (Nat.le_add_right _ _)]
theorem bat_app_at (p q : List UInt8) : bat (p ++ q) p.length = bat q 0 := bat_app_right p q 0

theorem isD_of_bat {D : List UInt8} (h : ∀ j, j < D.length → isDig (bat D j) = true) : ∀ x ∈ D, isD x = true := by
  intro x hx
  obtain ⟨j, hj, rfl⟩ := List.getElem_of_mem hx
  have := h j hj
  rw [bat_lt D j hj] at this
  exact this
theorem dEnd_block (p D q : List UInt8) (hD : ∀ j, j < D.length → isDig (bat D j) = true) (hq : isDig (bat q 0) = false) : dEnd (p ++ (D ++ q)) p.length = p.length + D.length := by
  unfold dEnd
  rw [List.drop_left]
  have : (D ++ q).takeWhile isD = D := by
    rw [List.takeWhile_append_of_pos (isD_of_bat hD)]
    cases q with
    | nil => simp
    | cons c q => have : isD c = false := hq
                  simp [this]
  rw [this]

/-- zeros ahead of a number -/
theorem block_digits (n : Nat) (A : List UInt8) (hA : NumL A) : ∀ j, j < (List.replicate n 48 ++ A).length → isDig (bat (List.replicate n 48 ++ A) j) = true := by
  intro j hj
  by_cases h : j < n
  · rw [bat_app_left _ _ _ (by simpa using h)]
    have : bat (List.replicate n (48 : UInt8)) j = 48 := by simp [bat, List.getD_eq_getElem?_getD, h]
    rw [this]; rfl
  · obtain ⟨m, rfl⟩ : ∃ m, j = (List.replicate n (48 : UInt8)).length + m := ⟨j - n, by simp; omega⟩
    rw [bat_app_right]
    exact hA.2.2.1 m (by simp at hj; omega)
theorem block_zero (n : Nat) (A : List UInt8) (hA : NumL A) : (decide (1 < (List.replicate n 48 ++ A).length) && (bat (List.replicate n 48 ++ A) 0 == 48)) = decide (0 < n) := by
  obtain ⟨h1, h2, h3, h4⟩ := hA
  cases n with
  | zero =>
    simp only [List.replicate_zero, List.nil_append]
    by_cases h : 1 < A.length
    · simp [h, h4 h]
    · simp [h]
  | succ n =>
    have : bat (List.replicate (n + 1) 48 ++ A) 0 = 48 := by simp [bat, List.replicate_succ]
    rw [this]; simp; omega
theorem lz_block (p D q : List UInt8) (hD : ∀ j, j < D.length → isDig (bat D j) = true) (hq : isDig (bat q 0) = false) (h1 : 1 ≤ D.length) :
    lzAt (p ++ (D ++ q)) p.length = (decide (1 < D.length) && (bat D 0 == 48)) := by
  unfold lzAt
  rw [dEnd_block p D q hD hq, bat_app_at, bat_app_left D q 0 (by omega)]
  congr 1
  simp only [decide_eq_decide]; omega

theorem rc_form0 (pl : Nat) (A rest : List UInt8) (hA : NumL A) (ph : Nat) (B : List UInt8) :
    rcN (ctext 0 pl ph A B ++ rest) = ((ctext 0 pl ph A B).length : Int) ∧ rcZ (ctext 0 pl ph A B ++ rest) = cwant 0 pl ph := by
  obtain ⟨D, hD⟩ : ∃ D, D = List.replicate pl (48 : UInt8) ++ A := ⟨_, rfl⟩
  have e : ctext 0 pl ph A B ++ rest = [123] ++ (D ++ (125 :: rest)) := by simp [ctext, hD]
  have el : (ctext 0 pl ph A B).length = D.length + 2 := by simp [ctext, hD]; omega
  have d1 : ∀ j, j < D.length → isDig (bat D j) = true := by rw [hD]; exact block_digits pl A hA
  have d2 : 1 ≤ D.length := by have := hA.1; simp [hD]; omega
  have z := block_zero pl A hA
  rw [← hD] at z
  have E := dEnd_block [123] D (125 :: rest) d1 rfl
  have Z := lz_block [123] D (125 :: rest) d1 rfl d2
  rw [z] at Z
  rw [e, el]
  have hb : bat ([123] ++ (D ++ (125 :: rest))) (1 + D.length) = 125 := by
    have := bat_app_at ([123] ++ D) (125 :: rest)
    simp only [List.length_append, List.length_cons, List.length_nil, List.append_assoc] at this
    rw [Nat.zero_add] at this
    exact this
  generalize hl : [123] ++ (D ++ (125 :: rest)) = l at *
  have hlen : l.length = D.length + 2 + rest.length := by rw [← hl]; simp; omega
  have E' : dEnd l 1 = 1 + D.length := E
  have Z' : lzAt l 1 = decide (0 < pl) := Z
  have c1 : cEnd l = 1 + D.length := by
    unfold cEnd; rw [E', hb]; simp
  have c2 : cOk l = true := by
    unfold cOk; rw [c1, E', hb, decide_eq_true (show 1 + D.length ≠ 1 by omega), decide_eq_true (show 1 + D.length ≠ l.length by omega)]; rfl
  have c3 : cZ l = decide (0 < pl) := by
    unfold cZ; rw [E', hb, Z']; simp
  refine ⟨?_, ?_⟩
  · simp [rcN, c2, c1]; omega
  · simp [rcZ, c2, c3, cwant]

theorem rc_form1 (pl : Nat) (A rest : List UInt8) (hA : NumL A) (ph : Nat) (B : List UInt8) :
    rcN (ctext 1 pl ph A B ++ rest) = ((ctext 1 pl ph A B).length : Int) ∧ rcZ (ctext 1 pl ph A B ++ rest) = cwant 1 pl ph := by
  obtain ⟨D, hD⟩ : ∃ D, D = List.replicate pl (48 : UInt8) ++ A := ⟨_, rfl⟩
  have e : ctext 1 pl ph A B ++ rest = [123] ++ (D ++ (44 :: 125 :: rest)) := by simp [ctext, hD]
  have el : (ctext 1 pl ph A B).length = D.length + 3 := by simp [ctext, hD]; omega
  have d1 : ∀ j, j < D.length → isDig (bat D j) = true := by rw [hD]; exact block_digits pl A hA
  have d2 : 1 ≤ D.length := by have := hA.1; simp [hD]; omega
  have z := block_zero pl A hA
  rw [← hD] at z
  have E := dEnd_block [123] D (44 :: 125 :: rest) d1 rfl
  have Z := lz_block [123] D (44 :: 125 :: rest) d1 rfl d2
  rw [z] at Z
  rw [e, el]
  have hb : bat ([123] ++ (D ++ (44 :: 125 :: rest))) (1 + D.length) = 44 := by
    have := bat_app_at ([123] ++ D) (44 :: 125 :: rest)
    simp only [List.length_append, List.length_cons, List.length_nil, List.append_assoc] at this
    rw [Nat.zero_add] at this
    exact this
  have hb2 : bat ([123] ++ (D ++ (44 :: 125 :: rest))) (1 + D.length + 1) = 125 := by
    have := bat_app_right ([123] ++ D) (44 :: 125 :: rest) 1
    simp only [List.length_append, List.length_cons, List.length_nil, List.append_assoc] at this
    rw [Nat.zero_add] at this
    exact this
  generalize hl : [123] ++ (D ++ (44 :: 125 :: rest)) = l at *
  have hlen : l.length = D.length + 3 + rest.length := by rw [← hl]; simp; omega
  have E' : dEnd l 1 = 1 + D.length := E
  have Z' : lzAt l 1 = decide (0 < pl) := Z
  have E2 : dEnd l (1 + D.length + 1) = 1 + D.length + 1 := dEnd_stop _ _ (by rw [hb2]; rfl)
  have Z2 : lzAt l (1 + D.length + 1) = false := by unfold lzAt; rw [E2, decide_eq_false (by omega)]; rfl
  have c1 : cEnd l = 1 + D.length + 1 := by
    unfold cEnd; rw [E', hb, if_pos ⟨by omega, rfl⟩, E2]
  have c2 : cOk l = true := by
    unfold cOk; rw [c1, E', hb2, decide_eq_true (show 1 + D.length ≠ 1 by omega), decide_eq_true (show 1 + D.length + 1 ≠ l.length by omega)]; rfl
  have c3 : cZ l = decide (0 < pl) := by
    unfold cZ; rw [E', hb, Z', Z2]; simp
  refine ⟨?_, ?_⟩
  · simp [rcN, c2, c1]; omega
  · simp [rcZ, c2, c3, cwant]

theorem rc_form2 (pl : Nat) (A rest : List UInt8) (hA : NumL A) (ph : Nat) (B : List UInt8) (hB : NumL B) :
    rcN (ctext 2 pl ph A B ++ rest) = ((ctext 2 pl ph A B).length : Int) ∧ rcZ (ctext 2 pl ph A B ++ rest) = cwant 2 pl ph := by
  obtain ⟨D, hD⟩ : ∃ D, D = List.replicate pl (48 : UInt8) ++ A := ⟨_, rfl⟩
  obtain ⟨F, hF⟩ : ∃ F, F = List.replicate ph (48 : UInt8) ++ B := ⟨_, rfl⟩
  have e : ctext 2 pl ph A B ++ rest = [123] ++ (D ++ (44 :: (F ++ (125 :: rest)))) := by simp [ctext, hD, hF]
  have el : (ctext 2 pl ph A B).length = D.length + F.length + 3 := by simp [ctext, hD, hF]; omega
  have d1 : ∀ j, j < D.length → isDig (bat D j) = true := by rw [hD]; exact block_digits pl A hA
  have d2 : 1 ≤ D.length := by have := hA.1; simp [hD]; omega
  have f1 : ∀ j, j < F.length → isDig (bat F j) = true := by rw [hF]; exact block_digits ph B hB
  have f2 : 1 ≤ F.length := by have := hB.1; simp [hF]; omega
  have z := block_zero pl A hA
  rw [← hD] at z
  have y := block_zero ph B hB
  rw [← hF] at y
  have E := dEnd_block [123] D (44 :: (F ++ (125 :: rest))) d1 rfl
  have Z := lz_block [123] D (44 :: (F ++ (125 :: rest))) d1 rfl d2
  rw [z] at Z
  have E2 := dEnd_block ([123] ++ (D ++ [44])) F (125 :: rest) f1 rfl
  have Z2 := lz_block ([123] ++ (D ++ [44])) F (125 :: rest) f1 rfl f2
  rw [y] at Z2
  have er : ([123] ++ (D ++ [44])) ++ (F ++ (125 :: rest)) = [123] ++ (D ++ (44 :: (F ++ (125 :: rest)))) := by simp
  rw [er] at E2 Z2
  have ln : ([123] ++ (D ++ [44])).length = 1 + D.length + 1 := by simp; omega
  rw [ln] at E2 Z2
  rw [e, el]
  have hb : bat ([123] ++ (D ++ (44 :: (F ++ (125 :: rest))))) (1 + D.length) = 44 := by
    have := bat_app_at ([123] ++ D) (44 :: (F ++ (125 :: rest)))
    simp only [List.length_append, List.length_cons, List.length_nil, List.append_assoc] at this
    rw [Nat.zero_add] at this
    exact this
  have hb2 : bat ([123] ++ (D ++ (44 :: (F ++ (125 :: rest))))) (1 + D.length + 1 + F.length) = 125 := by
    have := bat_app_at ([123] ++ D ++ [44] ++ F : List UInt8) (125 :: rest)
    rw [show ([123] ++ D ++ [44] ++ F : List UInt8).length = 1 + D.length + 1 + F.length by simp; omega] at this
    rw [← show ([123] ++ D ++ [44] ++ F : List UInt8) ++ (125 :: rest) = [123] ++ (D ++ (44 :: (F ++ (125 :: rest)))) by simp]
    rw [this]; rfl
  generalize hl : [123] ++ (D ++ (44 :: (F ++ (125 :: rest)))) = l at *
  have hlen : l.length = D.length + F.length + 3 + rest.length := by rw [← hl]; simp; omega
  have E' : dEnd l 1 = 1 + D.length := E
  have Z' : lzAt l 1 = decide (0 < pl) := Z
  have c1 : cEnd l = 1 + D.length + 1 + F.length := by
    unfold cEnd; rw [E', hb, if_pos ⟨by omega, rfl⟩, E2]
  have c2 : cOk l = true := by
    unfold cOk; rw [c1, E', hb2, decide_eq_true (show 1 + D.length ≠ 1 by omega), decide_eq_true (show 1 + D.length + 1 + F.length ≠ l.length by omega)]; rfl
  have c3 : cZ l = cwant 2 pl ph := by
    unfold cZ; rw [E', hb, Z', Z2, decide_eq_true (show 1 + D.length < l.length ∧ (44 : Int) = 44 from ⟨by omega, rfl⟩)]
    simp [cwant]
  refine ⟨?_, ?_⟩
  · simp [rcN, c2, c1]; omega
  · simp [rcZ, c2, c3]

/-- THE PLAIN LAW -/
theorem rc_written (f pl ph : Nat) (A B rest : List UInt8) (hf : f ≤ 2) (hA : NumL A) (hB : NumL B) :
    rcN (ctext f pl ph A B ++ rest) = ((ctext f pl ph A B).length : Int) ∧ rcZ (ctext f pl ph A B ++ rest) = cwant f pl ph := by
  rcases (show f = 0 ∨ f = 1 ∨ f = 2 by omega) with rfl | rfl | rfl
  · exact rc_form0 pl A rest hA ph B
  · exact rc_form1 pl A rest hA ph B
  · exact rc_form2 pl A rest hA ph B hB
theorem ctext_len (f pl ph : Nat) (A B : List UInt8) (hp : pl ≤ 7) (hq : ph ≤ 7) (hA : NumL A) (hB : NumL B) : 1 ≤ (ctext f pl ph A B).length ∧ (ctext f pl ph A B).length ≤ 60 := by
  have a := hA.2.1
  have b := hB.2.1
  unfold ctext
  split
  · simp; omega
  · split
    · simp; omega
    · simp; omega
end Go.Proofs.Qxb6001027a.Walks
