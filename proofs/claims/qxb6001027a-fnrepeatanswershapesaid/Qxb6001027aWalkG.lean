import Derived.Test.Qxb6001027aWalkF
namespace Go.Proofs.Qxb6001027a.Walks
open Go.RowKit Go.Proofs.Qxb6001027a.Plain

theorem nx_ge (s : ByteArray) (k : Nat) : k ≤ nx s k ∧ nx s k ≤ k + 1 := by unfold nx; split <;> omega
theorem nx_le (s : ByteArray) (k : Nat) (h : k ≤ s.size) : nx s k ≤ s.size := by unfold nx; split <;> omega
theorem toL (s : ByteArray) : s.toList = L s := ByteArray.toList_eq s
theorem L_rest (s : ByteArray) (i : Nat) : L (s.extract i s.size) = (L s).drop i := by
  rw [L_extract, List.take_of_length_le (by rw [L_len]; omega)]
theorem bat_drop (l : List UInt8) (i j : Nat) : bat (l.drop i) j = bat l (i + j) := by
  unfold bat; simp [List.getD_eq_getElem?_getD]
theorem ext_one (s : ByteArray) (i k : Nat) (hk : k = i + 1) (hi : i < s.size) (hb : (((s[i]'hi).toNat : Int) == 123) = true) : ((s.extract i k).toList == [123]) = true := by
  have e : (s[i]'hi) = 123 := by
    have : ((s[i]'hi).toNat : Int) = 123 := by simpa using hb
    exact UInt8.toNat_inj.1 (by simp; omega)
  have : L (s.extract i k) = [123] := by
    rw [L_extract, hk, List.drop_take, show i + 1 - i = 1 by omega, List.drop_eq_getElem_cons (by rw [L_len]; exact hi)]
    rw [List.take_succ_cons, List.take_zero]
    congr 1
  rw [toL, this]; rfl

set_option maxRecDepth 100000 in
set_option maxHeartbeats 1600000 in
/-- FnRepeatAnswerShape, function 6, at a byte that opens no count -/
theorem shape_plain (s : ByteArray) (i : Nat) (w : World) (hs : s.size ≤ 1048576) (hi : i < s.size) (hb : (((s[i]'hi).toNat : Int) == 123) = false) :
    Calls Try.prog 6 #[.string s, .int .i64 i] w fun e w' => e = .returned (.bool true) ∧ Grown w w' := by
  obtain ⟨m, hm⟩ : ∃ m, m = nx s (i + 1) := ⟨_, rfl⟩
  have m1 := nx_ge s (i + 1)
  have m2 := nx_le s (i + 1) (by omega)
  have HC : Hid (∀ (b : Nat) (w : World), w.cell? ⟨b, 0, none⟩ = some (.string s) → Calls Try.prog 25 #[.pointer (some ⟨b, 0, none⟩), .int .i64 i] w fun e w' => e = .returned (.tuple #[.int .i64 (nx s (i + 1)), .string ⟨#[]⟩]) ∧ Grown w w') :=
    fun b w hc => repeat_plain s i b w (by unfold maxLen; omega) hi hc hb
  rw [← hm] at m1 m2 HC
  clear hm
  go_enter Try.func6, Try.ntmps6
  go_wp2_with (go_at_call 15; go_in)
  refine (zzRepeat_of s i _ _ _ HC).mono ?_
  rintro e w' ⟨rfl, hg⟩
  clear HC
  go_wp2_with fail
  · have t : ((s[i]'hi).toNat : Int) = 123 := by assumption
    rw [t] at hb
    exact absurd hb (by decide)
  · go_ret
    exact ⟨rfl, hg⟩

set_option maxRecDepth 100000 in
set_option maxHeartbeats 1600000 in
/-- FnRepeatAnswerShape, function 6, at a '{' that opens no count -/
theorem shape_bad (s : ByteArray) (i : Nat) (w : World) (hs : s.size ≤ 1048576) (hi : i < s.size) (hb : (((s[i]'hi).toNat : Int) == 123) = true) (ho : cOk (L (s.extract i s.size)) = false) :
    Calls Try.prog 6 #[.string s, .int .i64 i] w fun e w' => e = .returned (.bool true) ∧ Grown w w' := by
  have HC : Hid (∀ (b : Nat) (w : World), w.cell? ⟨b, 0, none⟩ = some (.string s) → Calls Try.prog 25 #[.pointer (some ⟨b, 0, none⟩), .int .i64 i] w fun e w' => e = .returned (.tuple #[.int .i64 0, .string ⟨#[123]⟩]) ∧ Grown w w') :=
    fun b w hc => repeat_bad s i b w (by unfold maxLen; omega) hi hc hb ho
  clear ho
  go_enter Try.func6, Try.ntmps6
  go_wp2_with (go_at_call 15; go_in)
  refine (zzRepeat_of s i _ _ _ HC).mono ?_
  rintro e w' ⟨rfl, hg⟩
  clear HC
  go_wp2_with (go_at_call 17; refine (hIsDigit_any _ _).mono ?_; rintro e w' ⟨rfl, rfl⟩)
  all_goals first
    | (have t : (s.size : Int) - (i : Int) < 1 ∨ (!(s.extract i s.size).toList == [123]) = true := by assumption
       have u : (i : Int) + 1 = (s.size : Int) := by assumption
       rw [ext_one s i s.size (by omega) hi hb] at t
       rcases t with t | t
       · omega
       · exact absurd t (by decide))
    | (have t : (s.size : Int) - (i : Int) < 1 ∨ (!(s.extract i (i + 1)).toList == [123]) = true := by assumption
       rw [ext_one s i (i + 1) rfl hi hb] at t
       rcases t with t | t
       · omega
       · exact absurd t (by decide))
    | (go_ret
       exact ⟨rfl, hg⟩)

/-- at a '{' that opens a count: the next byte is a digit; how long the count is -/
theorem cOk_next (s : ByteArray) (i : Nat) (hi : i < s.size) (ho : cOk (L (s.extract i s.size)) = true) :
    ∃ (h : i + 1 < s.size) (n : Nat), isDig ((s[i + 1]'h).toNat : Int) = true ∧ rcN (L (s.extract i s.size)) = n ∧ 3 ≤ n ∧ i + n ≤ s.size := by
  have hlen : (L (s.extract i s.size)).length = s.size - i := by rw [L_len]; simp
  have key : ∀ (c : UInt8) (A X : List UInt8), L (s.extract i s.size) = c :: (A ++ X) → A ≠ [] → AllD A → ∃ (h : i + 1 < s.size), isDig ((s[i + 1]'h).toNat : Int) = true := by
    intro c A X e h0 hA
    cases A with
    | nil => exact absurd rfl h0
    | cons d A =>
      have h1 : i + 1 < s.size := by rw [e] at hlen; simp at hlen; omega
      refine ⟨h1, ?_⟩
      rw [← bat_L s (i + 1) h1, ← bat_drop, ← L_rest, e]
      exact hA d (by simp)
  rcases cOk_parts _ ho with ⟨c, A, rest, e, h0, hA, hn, _⟩ | ⟨c, A, B, rest, e, h0, hA, hB, hn, _⟩
  · obtain ⟨h1, h2⟩ := key c A _ e h0 hA
    refine ⟨h1, _, h2, hn, ?_, ?_⟩
    · have := List.length_pos_iff.2 h0; omega
    · rw [e] at hlen; simp at hlen; omega
  · obtain ⟨h1, h2⟩ := key c A _ e h0 hA
    refine ⟨h1, _, h2, hn, ?_, ?_⟩
    · have := List.length_pos_iff.2 h0; omega
    · rw [e] at hlen; simp at hlen; omega

set_option maxRecDepth 100000 in
set_option maxHeartbeats 1600000 in
/-- FnRepeatAnswerShape, function 6, at a count without a leading zero -/
theorem shape_count (s : ByteArray) (i : Nat) (w : World) (hs : s.size ≤ 1048576) (hi : i < s.size) (hb : (((s[i]'hi).toNat : Int) == 123) = true) (ho : cOk (L (s.extract i s.size)) = true) (hz : rcZ (L (s.extract i s.size)) = false) :
    Calls Try.prog 6 #[.string s, .int .i64 i] w fun e w' => e = .returned (.bool true) ∧ Grown w w' := by
  obtain ⟨h1, n, hd, hn, n3, hle⟩ := cOk_next s i hi ho
  obtain ⟨m, hm⟩ : ∃ m, m = nx s (i + n) := ⟨_, rfl⟩
  have m1 := nx_ge s (i + n)
  have m2 := nx_le s (i + n) hle
  have HC : Hid (∀ (b : Nat) (w : World), w.cell? ⟨b, 0, none⟩ = some (.string s) → Calls Try.prog 25 #[.pointer (some ⟨b, 0, none⟩), .int .i64 i] w fun e w' => e = .returned (.tuple #[.int .i64 (nx s (i + n)), .string ⟨#[]⟩]) ∧ Grown w w') :=
    fun b w hc => repeat_count s i b n w (by unfold maxLen; omega) hi hc hb hn hz hle
  rw [← hm] at m1 m2 HC
  have HD : Hid (isDig ((s[i + 1]'h1).toNat : Int) = true) := hd
  have hm1 : i + 3 ≤ m := by omega
  clear hm hd hn hz ho n3 hle m1
  go_enter Try.func6, Try.ntmps6
  go_wp2_with (go_at_call 15; go_in)
  refine (zzRepeat_of s i _ _ _ HC).mono ?_
  rintro e w' ⟨rfl, hg⟩
  clear HC
  go_wp2_with (go_at_call 17; refine (hIsDigit_any _ _).mono ?_; rintro e w' ⟨rfl, rfl⟩; rw [HD.out])
  all_goals first
    | (have t : ¬ ((s[i]'hi).toNat : Int) = 123 := by assumption
       exact absurd (by simpa using hb) t)
    | (go_ret
       exact ⟨rfl, hg⟩)
end Go.Proofs.Qxb6001027a.Walks
