import Derived.Test.Qxb6001027aWalkB
import Derived.BigQuiet
import Derived.WalkSpells
namespace Go.Proofs.Qxb6001027a.Walks
open Go.RowKit Go.Proofs.Qxb6001027a.Plain

theorem Grown.drewN {a b : World} (h : Grown a b) (n : Nat) : Grown a (b.drewN n) := h

/-- past a '?' at k, if there is one -/
def nx (s : ByteArray) (k : Nat) : Nat := if k < s.size ∧ bat (L s) k = 63 then k + 1 else k
theorem nx_past (s : ByteArray) (k : Nat) (h : ¬ k < s.size) : nx s k = k := by unfold nx; rw [if_neg (fun x => h x.1)]
theorem nx_yes (s : ByteArray) (k : Nat) (h : k < s.size) (hc : (((s[k]'h).toNat : Int) == 63) = true) : nx s k = k + 1 := by
  unfold nx; rw [if_pos ⟨h, by rw [bat_L s k h]; simpa using hc⟩]
theorem nx_no (s : ByteArray) (k : Nat) (h : k < s.size) (hc : (((s[k]'h).toNat : Int) == 63) = false) : nx s k = k := by
  unfold nx; rw [if_neg (fun x => by rw [bat_L s k h] at x; simp at hc; exact hc x.2)]
theorem ret_is {a b : Int} {x y : ByteArray} (h : a = b) (k : x = y) : Ending.returned (.tuple #[.int .i64 a, .string x]) = .returned (.tuple #[.int .i64 b, .string y]) := by rw [h, k]

set_option maxHeartbeats 400000 in
/-- repeat, function 25, at a byte that opens no count -/
theorem repeat_plain (s : ByteArray) (i b : Nat) (w : World) (hs : s.size ≤ maxLen) (hi : i < s.size) (hc : w.cell? ⟨b, 0, none⟩ = some (.string s)) (hb : (((s[i]'hi).toNat : Int) == 123) = false) :
    Calls Try.prog 25 #[.pointer (some ⟨b, 0, none⟩), .int .i64 i] w fun e w' => e = .returned (.tuple #[.int .i64 (nx s (i + 1)), .string ⟨#[]⟩]) ∧ Grown w w' := by
  unfold maxLen at hs
  go_enter Try.func25, Try.ntmps25
  go_wp2
  · have t1 : ((i : Int) + 1) < (s.size : Int) := by assumption
    have t2 : i + 1 < s.size := by omega
    have t3 : (((s[i + 1]'t2).toNat : Int) == 63) = true := by assumption
    go_ret2
    exact ⟨ret_is (by rw [nx_yes s _ t2 t3]; omega) rfl, Grown.refl _⟩
  · have t1 : ((i : Int) + 1) < (s.size : Int) := by assumption
    have t2 : i + 1 < s.size := by omega
    have t3 : (((s[i + 1]'t2).toNat : Int) == 63) = false := by assumption
    go_ret2
    exact ⟨ret_is (by rw [nx_no s _ t2 t3]; omega) rfl, Grown.refl _⟩
  · have t1 : (s.size : Int) ≤ (i : Int) + 1 := by assumption
    go_ret2
    exact ⟨ret_is (by rw [nx_past s _ (by omega)]; omega) rfl, Grown.refl _⟩

set_option maxHeartbeats 400000 in
/-- repeat, function 25, at a '{' that opens no count -/
theorem repeat_bad (s : ByteArray) (i b : Nat) (w : World) (hs : s.size ≤ maxLen) (hi : i < s.size) (hc : w.cell? ⟨b, 0, none⟩ = some (.string s)) (hb : (((s[i]'hi).toNat : Int) == 123) = true)
    (ho : cOk (L (s.extract i s.size)) = false) :
    Calls Try.prog 25 #[.pointer (some ⟨b, 0, none⟩), .int .i64 i] w fun e w' => e = .returned (.tuple #[.int .i64 0, .string ⟨#[123]⟩]) ∧ Grown w w' := by
  have H1 : Hid (rcN (L (s.extract i s.size)) = -1) := (rcN_no ho).symm
  have H2 : Hid (rcZ (L (s.extract i s.size)) = false) := (rcZ_no ho).symm
  clear ho
  have hs' := hs
  unfold maxLen at hs
  go_enter Try.func25, Try.ntmps25
  go_wp2_with fail
  refine (repeatCount_any _ _ (by simp; omega) (by simp; omega)).mono ?_
  rintro e w' ⟨rfl, hg⟩
  rw [H1.out, H2.out]
  go_wp2
  go_ret2
  exact ⟨rfl, hg⟩

set_option maxHeartbeats 400000 in
/-- repeat, function 25, at a count with a leading zero -/
theorem repeat_zero (s : ByteArray) (i b n : Nat) (w : World) (hs : s.size ≤ maxLen) (hi : i < s.size) (hc : w.cell? ⟨b, 0, none⟩ = some (.string s)) (hb : (((s[i]'hi).toNat : Int) == 123) = true)
    (hn : rcN (L (s.extract i s.size)) = n) (hz : rcZ (L (s.extract i s.size)) = true) (hle : i + n ≤ s.size) :
    Calls Try.prog 25 #[.pointer (some ⟨b, 0, none⟩), .int .i64 i] w fun e w' => e = .returned (.tuple #[.int .i64 0, .string (s.extract i (i + n))]) ∧ Grown w w' := by
  have H1 : Hid (rcN (L (s.extract i s.size)) = n) := hn
  have H2 : Hid (rcZ (L (s.extract i s.size)) = true) := hz
  clear hn hz
  have hs' := hs
  unfold maxLen at hs
  go_enter Try.func25, Try.ntmps25
  go_wp2_with fail
  refine (repeatCount_any _ _ (by simp; omega) (by simp; omega)).mono ?_
  rintro e w' ⟨rfl, hg⟩
  rw [H1.out, H2.out]
  go_wp2
  go_quiet (fail)
  go_wp2
  go_ret2
  exact ⟨rfl, Grown.drewN hg _⟩

set_option maxHeartbeats 400000 in
/-- repeat, function 25, at a count without a leading zero -/
theorem repeat_count (s : ByteArray) (i b n : Nat) (w : World) (hs : s.size ≤ maxLen) (hi : i < s.size) (hc : w.cell? ⟨b, 0, none⟩ = some (.string s)) (hb : (((s[i]'hi).toNat : Int) == 123) = true)
    (hn : rcN (L (s.extract i s.size)) = n) (hz : rcZ (L (s.extract i s.size)) = false) (hle : i + n ≤ s.size) :
    Calls Try.prog 25 #[.pointer (some ⟨b, 0, none⟩), .int .i64 i] w fun e w' => e = .returned (.tuple #[.int .i64 (nx s (i + n)), .string ⟨#[]⟩]) ∧ Grown w w' := by
  have H1 : Hid (rcN (L (s.extract i s.size)) = n) := hn
  have H2 : Hid (rcZ (L (s.extract i s.size)) = false) := hz
  clear hn hz
  have hs' := hs
  unfold maxLen at hs
  go_enter Try.func25, Try.ntmps25
  go_wp2_with fail
  refine (repeatCount_any _ _ (by simp; omega) (by simp; omega)).mono ?_
  rintro e w' ⟨rfl, hg⟩
  rw [H1.out, H2.out]
  go_wp2
  · have t1 : ((i : Int) + (n : Int)) < (s.size : Int) := by assumption
    have t2 : i + n < s.size := by omega
    have t3 : (((s[i + n]'t2).toNat : Int) == 63) = true := by assumption
    go_ret2
    exact ⟨ret_is (by rw [nx_yes s _ t2 t3]; omega) rfl, hg⟩
  · have t1 : ((i : Int) + (n : Int)) < (s.size : Int) := by assumption
    have t2 : i + n < s.size := by omega
    have t3 : (((s[i + n]'t2).toNat : Int) == 63) = false := by assumption
    go_ret2
    exact ⟨ret_is (by rw [nx_no s _ t2 t3]; omega) rfl, hg⟩
  · have t1 : (s.size : Int) ≤ (i : Int) + (n : Int) := by assumption
    go_ret2
    exact ⟨ret_is (by rw [nx_past s _ (by omega)]; omega) rfl, hg⟩
end Go.Proofs.Qxb6001027a.Walks
