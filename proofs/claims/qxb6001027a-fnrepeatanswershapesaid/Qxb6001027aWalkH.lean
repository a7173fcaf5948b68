import Derived.Test.Qxb6001027aWalkG
namespace Go.Proofs.Qxb6001027a.Walks
open Go.RowKit Go.Proofs.Qxb6001027a.Plain

/-- a number with a leading zero, in the walk's own words -/
def Zd (x : ByteArray) : Prop := ∃ h : 1 < x.size, (((x[0]'(by omega)).toNat : Int) == 48) = true
theorem Zd_of (x : ByteArray) (h : zl (L x) = true) : Zd x := by
  simp only [zl, Bool.and_eq_true, decide_eq_true_eq, L_len] at h
  exact ⟨h.1, by rw [← bat_L x 0 (by omega)]; exact h.2⟩
theorem not_Zd (x : ByteArray) (h : zl (L x) = false) : ¬ 1 < x.size ∨ ∃ h : 1 < x.size, (((x[0]'(by omega)).toNat : Int) == 48) = false := by
  by_cases h1 : 1 < x.size
  · right
    refine ⟨h1, ?_⟩
    simp only [zl, L_len, decide_eq_true h1, Bool.true_and] at h
    rw [← bat_L x 0 (by omega)]; exact h
  · left; exact h1

/-- what is refused, taken apart: x is s[i:i+n] -/
theorem cOk_zero (s : ByteArray) (i : Nat) (hi : i < s.size) (hb : (((s[i]'hi).toNat : Int) == 123) = true) (ho : cOk (L (s.extract i s.size)) = true) (hz : rcZ (L (s.extract i s.size)) = true) :
    ∃ x : ByteArray, rcN (L (s.extract i s.size)) = (x.size : Nat) ∧ s.extract i (i + x.size) = x ∧ i + x.size ≤ s.size ∧ 4 ≤ x.size ∧ (∀ h, ((x[0]'h).toNat : Int) = 123) ∧ (∀ h, ((x[x.size - 1]'h).toNat : Int) = 125) ∧
      ((AllD (L (x.extract 1 (x.size - 1))) ∧ L (x.extract 1 (x.size - 1)) ≠ [] ∧ zl (L (x.extract 1 (x.size - 1))) = true) ∨
       ∃ A B, L (x.extract 1 (x.size - 1)) = A ++ 44 :: B ∧ A ≠ [] ∧ AllD A ∧ AllD B ∧ (zl A || zl B) = true) := by
  have hlen : (L (s.extract i s.size)).length = s.size - i := by rw [L_len]; simp
  have hc : ∀ (c : UInt8) (Y : List UInt8), L (s.extract i s.size) = c :: Y → c = 123 := by
    intro c Y e
    have : bat (L (s.extract i s.size)) 0 = 123 := by
      rw [L_rest, bat_drop, Nat.add_zero, bat_L s i hi]; simpa using hb
    rw [e] at this
    have : (c.toNat : Int) = 123 := this
    exact UInt8.toNat_inj.1 (by simp; omega)
  have key : ∀ (M rest : List UInt8), L (s.extract i s.size) = 123 :: (M ++ 125 :: rest) → rcN (L (s.extract i s.size)) = ((M.length + 2 : Nat) : Int) →
      ∃ x : ByteArray, rcN (L (s.extract i s.size)) = (x.size : Nat) ∧ s.extract i (i + x.size) = x ∧ i + x.size ≤ s.size ∧ x.size = M.length + 2 ∧ (∀ h, ((x[0]'h).toNat : Int) = 123) ∧ (∀ h, ((x[x.size - 1]'h).toNat : Int) = 125) ∧ L (x.extract 1 (x.size - 1)) = M := by
    intro M rest e hn
    have hle : i + (M.length + 2) ≤ s.size := by rw [e] at hlen; simp at hlen; omega
    have hx : (s.extract i (i + (M.length + 2))).size = M.length + 2 := by simp; omega
    have hLx : L (s.extract i (i + (M.length + 2))) = 123 :: (M ++ [125]) := by
      rw [L_extract, List.drop_take, ← L_rest, e, show i + (M.length + 2) - i = M.length + 1 + 1 by omega, List.take_succ_cons]
      congr 1
      rw [show M ++ 125 :: rest = (M ++ [125]) ++ rest by simp, List.take_append_of_le_length (by simp), List.take_of_length_le (by simp)]
    refine ⟨s.extract i (i + (M.length + 2)), by rw [hx]; exact hn, by rw [hx], by rw [hx]; exact hle, hx, ?_, ?_, ?_⟩
    · intro h; rw [← bat_L _ 0 h, hLx]; rfl
    · intro h
      rw [← bat_L _ _ h, hLx, hx, show M.length + 2 - 1 = M.length + 1 by omega, batx_cons, show M.length = M.length + 0 from rfl, batx_right]; rfl
    · rw [L_extract, hLx, hx, show M.length + 2 - 1 = M.length + 1 by omega, List.take_succ_cons, List.drop_succ_cons, List.drop_zero, List.take_left]
  rcases cOk_parts _ ho with ⟨c, A, rest, e, h0, hA, hn, hz'⟩ | ⟨c, A, B, rest, e, h0, hA, hB, hn, hz'⟩
  · have := hc _ _ e
    subst this
    obtain ⟨x, k1, k2, k3, k4, k5, k6, k7⟩ := key A rest e hn
    rw [hz] at hz'
    have h2 : 1 < A.length := by
      have := hz'.symm
      simp only [zl, Bool.and_eq_true, decide_eq_true_eq] at this
      exact this.1
    exact ⟨x, k1, k2, k3, by omega, k5, k6, .inl (by rw [k7]; exact ⟨hA, h0, hz'.symm⟩)⟩
  · have := hc _ _ e
    subst this
    obtain ⟨x, k1, k2, k3, k4, k5, k6, k7⟩ := key (A ++ 44 :: B) rest (by rw [e]; simp) (by rw [hn]; simp; omega)
    rw [hz] at hz'
    have := List.length_pos_iff.2 h0
    simp at k4
    exact ⟨x, k1, k2, k3, by omega, k5, k6, .inr ⟨A, B, k7, h0, hA, hB, hz'.symm⟩⟩

set_option maxRecDepth 100000 in
set_option maxHeartbeats 1000000 in
/-- FnRepeatAnswerShape, function 6, at a count with a leading zero -/
theorem shape_zero (s : ByteArray) (i : Nat) (w : World) (hs : s.size ≤ 1048576) (hi : i < s.size) (hb : (((s[i]'hi).toNat : Int) == 123) = true) (ho : cOk (L (s.extract i s.size)) = true) (hz : rcZ (L (s.extract i s.size)) = true) :
    Calls Try.prog 6 #[.string s, .int .i64 i] w fun e w' => e = .returned (.bool true) ∧ Grown w w' := by
  obtain ⟨h1, n0, hd, q1, q2, q3⟩ := cOk_next s i hi ho
  clear q1 q2 q3 n0
  obtain ⟨x, k1, k2, k3, k4, k5, k6, k7⟩ := cOk_zero s i hi hb ho hz
  have HC : Hid (∀ (b : Nat) (w : World), w.cell? ⟨b, 0, none⟩ = some (.string s) → Calls Try.prog 25 #[.pointer (some ⟨b, 0, none⟩), .int .i64 i] w fun e w' => e = .returned (.tuple #[.int .i64 0, .string x]) ∧ Grown w w') :=
    fun b w hc => by have := repeat_zero s i b x.size w (by unfold maxLen; omega) hi hc hb k1 hz k3; rw [k2] at this; exact this
  have HD : Hid (isDig ((s[i + 1]'h1).toNat : Int) = true) := hd
  have HX : Hid (s.extract i (i + x.size) = x) := k2
  have x0 : (x.toList == [123]) = false := by
    have : x.toList.length = x.size := by rw [toL, L_len]
    cases h : x.toList == [123] with
    | false => rfl
    | true => have h' := beq_iff_eq.1 h; rw [h'] at this; simp at this; omega
  have x1 : x.toList.isEmpty = false := by
    have : x.toList.length = x.size := by rw [toL, L_len]
    cases h : x.toList.isEmpty with
    | false => rfl
    | true => have h' := List.isEmpty_iff.1 h; rw [h'] at this; simp at this; omega
  have x2 := k5 (by omega)
  have x3 := k6 (by omega)
  have K7 : Hid _ := k7
  clear k1 k2 k5 k6 k7 hd hz ho
  go_enter Try.func6, Try.ntmps6
  go_wp2_with (go_at_call 15; go_in)
  refine (zzRepeat_of s i _ _ _ HC).mono ?_
  rintro e w' ⟨rfl, hg⟩
  clear HC
  go_wp2_with (go_at_call 17; refine (hIsDigit_any _ _).mono ?_; rintro e w' ⟨rfl, rfl⟩; rw [HD.out])
  · have t : (s.size : Int) - (i : Int) < (x.size : Int) ∨ (!(s.extract i (i + x.size)).toList == x.toList) = true := by assumption
    rw [HX.out] at t
    rcases t with t | t
    · omega
    · simp at t
  · clear x0 x1 x2 x3 HX HD hb k3
    have hsz : (x.extract 1 (x.size - 1)).size ≤ maxLen := by unfold maxLen; simp; omega
    rcases K7.out with ⟨hA, h0, hz⟩ | ⟨A, B, hL, h0, hA, hB, hz⟩
    · refine (split_none _ hsz hA _).mono ?_
      rintro e w2 ⟨a, b, rfl, ha, hb, hg2⟩
      rw [← ha] at hA h0 hz
      have sa : a.size ≤ maxLen := by rw [← L_len, ha, L_len]; exact hsz
      have sb : b.size = 0 := by rw [← L_len, hb]; rfl
      have p1 : 0 < a.size := by rw [← L_len]; exact List.length_pos_iff.2 h0
      obtain ⟨z1, z2⟩ := Zd_of a hz
      have ca := fun w => hAllDigits_yes a sa hA w
      have cb := fun w => hAllDigits_yes b (by rw [sb]; omega) (by rw [hb]; intro y hy; simp at hy) w
      have CA : Hid _ := ca
      have CB : Hid _ := cb
      have hgg := GrownF.trans hg hg2
      have p2 : ((a.size : Int) == 0) = false := beq_eq_false_iff_ne.2 (by omega)
      clear ca cb hA h0 hz K7 hsz ha hb hg hg2
      unfold maxLen at sa
      go_wp2_with fail
      refine (CA.out _).mono ?_
      rintro e w3 ⟨rfl, rfl⟩
      go_wp2_with fail
      refine (CB.out _).mono ?_
      rintro e w3 ⟨rfl, rfl⟩
      go_wp2_with fail
      go_ret
      exact ⟨rfl, hgg⟩
    · refine (split_comma _ A B hsz hL hA _).mono ?_
      rintro e w2 ⟨a, b, rfl, ha, hb, hg2⟩
      have hlen : A.length + 1 + B.length = (x.extract 1 (x.size - 1)).size := by rw [← L_len, hL]; simp; omega
      have sa : a.size ≤ maxLen := by rw [← L_len, ha]; omega
      have sb : b.size ≤ maxLen := by rw [← L_len, hb]; omega
      have p1 : 0 < a.size := by rw [← L_len, ha]; exact List.length_pos_iff.2 h0
      rw [← ha] at hA hz
      rw [← hb] at hB hz
      have ca := fun w => hAllDigits_yes a sa hA w
      have cb := fun w => hAllDigits_yes b sb hB w
      have CA : Hid _ := ca
      have CB : Hid _ := cb
      have hgg := GrownF.trans hg hg2
      have p2 : ((a.size : Int) == 0) = false := beq_eq_false_iff_ne.2 (by omega)
      have HZ : Hid _ := hz
      clear ca cb hA h0 hz K7 hsz ha hb hg hg2 hL hB hlen
      unfold maxLen at sa sb
      go_wp2_with fail
      refine (CA.out _).mono ?_
      rintro e w3 ⟨rfl, rfl⟩
      go_wp2_with fail
      refine (CB.out _).mono ?_
      rintro e w3 ⟨rfl, rfl⟩
      cases hza : zl (L a) with
      | true =>
        obtain ⟨z1, z2⟩ := Zd_of a hza
        clear hza
        go_wp2_with fail
        go_ret
        exact ⟨rfl, hgg⟩
      | false =>
        have hzb := HZ.out
        rw [hza, Bool.false_or] at hzb
        obtain ⟨y1, y2⟩ := Zd_of b hzb
        rcases not_Zd a hza with z1 | ⟨z1, z2⟩
        · clear hza hzb
          go_wp2_with fail
          go_ret
          exact ⟨rfl, hgg⟩
        · clear hza hzb
          go_wp2_with fail
          go_ret
          exact ⟨rfl, hgg⟩
end Go.Proofs.Qxb6001027a.Walks
