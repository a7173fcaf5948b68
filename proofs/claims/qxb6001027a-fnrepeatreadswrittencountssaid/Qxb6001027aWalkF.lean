import Derived.Test.Qxb6001027aWalkE
import Derived.Test.Qxb6001027aPlainC
namespace Go.Proofs.Qxb6001027a.Walks
open Go.RowKit Go.Proofs.Qxb6001027a.Plain

theorem GrownF.trans {a b c : World} (h : Grown a b) (k : Grown b c) : Grown a c :=
  ⟨World.keptBut_trans h.1 (World.keptBut_mono (fun _ f => f.elim) k.1), fun x => (k.2.1 x).trans (h.2.1 x), Nat.le_trans h.2.2 k.2.2⟩

/-- ZZRepeat, function 16: what 'repeat' answers over a fresh scan -/
theorem zzRepeat_of (s : ByteArray) (i : Nat) (n : Int) (x : ByteArray) (w : World)
    (h : Hid (∀ (b : Nat) (w : World), w.cell? ⟨b, 0, none⟩ = some (.string s) → Calls Try.prog 25 #[.pointer (some ⟨b, 0, none⟩), .int .i64 i] w fun e w' => e = .returned (.tuple #[.int .i64 n, .string x]) ∧ Grown w w')) :
    Calls Try.prog 16 #[.string s, .int .i64 i] w fun e w' => e = .returned (.tuple #[.int .i64 n, .string x]) ∧ Grown w w' := by
  go_enter Try.func16, Try.ntmps16
  go_wp2_with fail
  refine (h.out w.heap.size _ (by go_simp)).mono ?_
  rintro e w' ⟨rfl, hg⟩
  go_wp2
  go_ret2
  exact ⟨rfl, GrownF.trans ((Grown.refl _).alloc _ _) hg⟩

/-- hIsDigit, function 17 -/
theorem hIsDigit_any (c : Int) (w : World) : Calls Try.prog 17 #[.int .u8 c] w fun e w' => e = .returned (.bool (isDig c)) ∧ w' = w := by
  go_enter Try.func17, Try.ntmps17
  go_wp2
  · have h : 48 ≤ c := by assumption
    go_ret
    exact ⟨ret_bool (by simp [isDig, h]), rfl⟩
  · have h : c < 48 := by assumption
    go_ret
    exact ⟨ret_bool (isDig_lo h).symm, rfl⟩

theorem allD_at (s : ByteArray) (h : AllD (L s)) (k : Nat) (hk : k < s.size) : isDig ((s[k]'hk).toNat : Int) = true := by
  exact h (s[k]'hk) (List.getElem_mem (l := L s) (n := k) (by rw [L_len]; exact hk))

set_option maxHeartbeats 400000 in
/-- hAllDigits, function 19, over digits -/
theorem hAllDigits_yes (s : ByteArray) (hs : s.size ≤ maxLen) (hd : AllD (L s)) (w : World) : Calls Try.prog 19 #[.string s] w fun e w' => e = .returned (.bool true) ∧ w' = w := by
  have HD : Hid (AllD (L s)) := hd
  clear hd
  unfold maxLen at hs
  go_enter Try.func19, Try.ntmps19
  go_wp2
  go_loop [3] (fun j => ∃ k : Nat, k ≤ s.size ∧ j = .int .i64 k) (fun j => s.size - (intOf j).toNat)
  case atStart => exact ⟨0, by omega, rfl⟩
  case round =>
    obtain ⟨k, hk, rfl⟩ := hrel
    by_cases hlt : k < s.size
    · have H1 : Hid (isDig ((s[k]'hlt).toNat : Int) = true) := allD_at s HD.out k hlt
      go_wp2_with (go_at_call 17; refine (hIsDigit_any _ _).mono ?_; rintro e w' ⟨rfl, rfl⟩; rw [H1.out])
      go_round
      case rel => exact ⟨k + 1, by omega, by go_num⟩
      case measure => simp [intOf]; omega
    · go_wp2
      go_ret
      exact ⟨rfl, rfl⟩

/-- no comma among them -/
theorem no_comma (s : ByteArray) (A X : List UInt8) (hL : L s = A ++ X) (hA : AllD A) (k : Nat) (hk : k < A.length) (h : k < s.size) : (((s[k]'h).toNat : Int) == 44) = false := by
  have e : bat (L s) k = bat A k := by rw [hL, batx_left A X k hk]
  rw [bat_L s k h] at e
  have : isDig (bat A k) = true := by rw [bat_lt A k hk]; exact hA _ (List.getElem_mem hk)
  rw [← e] at this
  simp only [isDig, Bool.and_eq_true, decide_eq_true_eq] at this
  simp; omega

theorem L_extract (s : ByteArray) (a b : Nat) : L (s.extract a b) = ((L s).take b).drop a := by
  unfold L
  simp [ByteArray.data_extract, List.extract_eq_take_drop, List.drop_take]
set_option maxHeartbeats 400000 in
/-- hSplitComma, function 18, over digits alone -/
theorem split_none (s : ByteArray) (hs : s.size ≤ maxLen) (hA : AllD (L s)) (w : World) : Calls Try.prog 18 #[.string s] w fun e w' => ∃ x y, e = .returned (.tuple #[.string x, .string y]) ∧ L x = L s ∧ L y = [] ∧ Grown w w' := by
  have HD : Hid (AllD (L s)) := hA
  clear hA
  unfold maxLen at hs
  go_enter Try.func18, Try.ntmps18
  go_wp2
  go_loop [4] (fun j => ∃ k : Nat, k ≤ s.size ∧ j = .int .i64 k) (fun j => s.size - (intOf j).toNat)
  case atStart => exact ⟨0, by omega, rfl⟩
  case round =>
    obtain ⟨k, hk, rfl⟩ := hrel
    by_cases hlt : k < s.size
    · have H1 : (((s[k]'hlt).toNat : Int) == 44) = false := no_comma s (L s) [] (by simp) HD.out k (by rw [L_len]; exact hlt) hlt
      go_wp2
      go_round
      case rel => exact ⟨k + 1, by omega, by go_num⟩
      case measure => simp [intOf]; omega
    · go_wp2
      go_ret2
      exact ⟨_, _, rfl, rfl, rfl, Grown.refl _⟩

set_option maxHeartbeats 400000 in
/-- hSplitComma, function 18, over digits, a comma, and whatever follows -/
theorem split_comma (s : ByteArray) (A B : List UInt8) (hs : s.size ≤ maxLen) (hL : L s = A ++ 44 :: B) (hA : AllD A) (w : World) : Calls Try.prog 18 #[.string s] w fun e w' => ∃ x y, e = .returned (.tuple #[.string x, .string y]) ∧ L x = A ∧ L y = B ∧ Grown w w' := by
  have HL : Hid (L s = A ++ 44 :: B) := hL
  have HD : Hid (AllD A) := hA
  have hsz : A.length + 1 + B.length = s.size := by rw [← L_len, hL]; simp; omega
  clear hA hL
  unfold maxLen at hs
  go_enter Try.func18, Try.ntmps18
  go_wp2
  go_loop [4] (fun j => ∃ k : Nat, k ≤ A.length ∧ j = .int .i64 k) (fun j => s.size - (intOf j).toNat)
  case atStart => exact ⟨0, by omega, rfl⟩
  case round =>
    obtain ⟨k, hk, rfl⟩ := hrel
    have hlt : k < s.size := by omega
    by_cases hka : k < A.length
    · have H1 : (((s[k]'hlt).toNat : Int) == 44) = false := no_comma s A (44 :: B) HL.out HD.out k hka hlt
      go_wp2
      go_round
      case rel => exact ⟨k + 1, by omega, by go_num⟩
      case measure => simp [intOf]; omega
    · have hkA : k = A.length := by omega
      have H1 : (((s[k]'hlt).toNat : Int) == 44) = true := by
        rw [← bat_L s k hlt, HL.out, hkA, show A.length = A.length + 0 from rfl, batx_right]; rfl
      have HK : Hid (k = A.length) := hkA
      clear hkA hka
      go_wp2
      go_quiet (fail)
      go_wp2
      go_ret2
      refine ⟨_, _, rfl, ?_, ?_, Grown.drewN (Grown.refl _) _⟩
      · show L (s.extract 0 k) = A
        rw [L_extract, HL.out, HK.out]; simp
      · show L (s.extract (k + 1) s.size) = B
        rw [L_extract, HL.out, HK.out, List.take_of_length_le (by simp; omega)]; simp
end Go.Proofs.Qxb6001027a.Walks
