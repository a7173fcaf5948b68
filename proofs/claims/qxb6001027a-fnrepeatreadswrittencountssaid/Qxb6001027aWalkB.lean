import Derived.Test.Qxb6001027aWalkA
import Derived.RegionTactic
namespace Go.Proofs.Qxb6001027a.Walks
open Go.RowKit Go.Proofs.Qxb6001027a.Plain
theorem ret_pair {a b : Int} {x y : Bool} (h : a = b) (k : x = y) : Ending.returned (.tuple #[.int .i64 a, .bool x]) = .returned (.tuple #[.int .i64 b, .bool y]) := by rw [h, k]
theorem rcN_no {l : List UInt8} (h : cOk l = false) : (-1 : Int) = rcN l := by simp [rcN, h]
theorem rcZ_no {l : List UInt8} (h : cOk l = false) : false = rcZ l := by simp [rcZ, h]
theorem rcN_yes {l : List UInt8} (h : cOk l = true) {e : Nat} (he : cEnd l = e) : (e : Int) + 1 = rcN l := by simp [rcN, h, he]
theorem rcZ_yes {l : List UInt8} (h : cOk l = true) : cZ l = rcZ l := by simp [rcZ, h]
theorem cOk_one {l : List UInt8} (h : ((dEnd l 1 : Int) == 1) = true) : cOk l = false := by
  have : dEnd l 1 = 1 := by simp at h; omega
  simp [cOk, this]
theorem cEnd_comma (t : ByteArray) (h : dEnd (L t) 1 < t.size) (hc : (((t[dEnd (L t) 1]'h).toNat : Int) == 44) = true) : cEnd (L t) = dEnd (L t) (dEnd (L t) 1 + 1) := by
  have : bat (L t) (dEnd (L t) 1) = 44 := by rw [bat_L t _ h]; simpa using hc
  unfold cEnd; rw [if_pos ⟨by rw [L_len]; exact h, this⟩]
theorem cZ_comma (t : ByteArray) (h : dEnd (L t) 1 < t.size) (hc : (((t[dEnd (L t) 1]'h).toNat : Int) == 44) = true) : cZ (L t) = (lzAt (L t) 1 || lzAt (L t) (dEnd (L t) 1 + 1)) := by
  have : bat (L t) (dEnd (L t) 1) = 44 := by rw [bat_L t _ h]; simpa using hc
  unfold cZ; rw [decide_eq_true (show dEnd (L t) 1 < (L t).length ∧ _ from ⟨by rw [L_len]; exact h, this⟩)]; simp
theorem cEnd_plain (t : ByteArray) (h : dEnd (L t) 1 < t.size) (hc : (((t[dEnd (L t) 1]'h).toNat : Int) == 44) = false) : cEnd (L t) = dEnd (L t) 1 := by
  have : ¬ bat (L t) (dEnd (L t) 1) = 44 := by rw [bat_L t _ h]; simpa using hc
  unfold cEnd; rw [if_neg (fun x => this x.2)]
theorem cZ_plain (t : ByteArray) (h : dEnd (L t) 1 < t.size) (hc : (((t[dEnd (L t) 1]'h).toNat : Int) == 44) = false) : cZ (L t) = lzAt (L t) 1 := by
  have : ¬ bat (L t) (dEnd (L t) 1) = 44 := by rw [bat_L t _ h]; simpa using hc
  unfold cZ; rw [decide_eq_false (show ¬ (dEnd (L t) 1 < (L t).length ∧ _) from fun x => this x.2)]; simp
theorem cEnd_past (t : ByteArray) (h : ¬ dEnd (L t) 1 < t.size) : cEnd (L t) = dEnd (L t) 1 := by
  unfold cEnd; rw [if_neg (fun x => h (by rw [← L_len]; exact x.1))]
theorem cOk_full (t : ByteArray) (h : (cEnd (L t) : Int) = t.size) : cOk (L t) = false := by
  have : cEnd (L t) = (L t).length := by rw [L_len]; omega
  simp [cOk, this]
theorem cOk_bad (t : ByteArray) (e : Nat) (he : cEnd (L t) = e) (h : e < t.size) (hc : ((e : Int) == (t.size : Int)) = true ∨ (((t[e]'h).toNat : Int) != 125) = true) : cOk (L t) = false := by
  rcases hc with hc | hc
  · simp at hc; omega
  · have : (bat (L t) (cEnd (L t)) == 125) = false := by rw [he, bat_L t _ h]; simpa using hc
    simp only [cOk, this]; simp
theorem cOk_good (t : ByteArray) (e : Nat) (he : cEnd (L t) = e) (h : e < t.size) (h1 : ((dEnd (L t) 1 : Int) == 1) = false) (hc : ((e : Int) == (t.size : Int)) = false ∧ (((t[e]'h).toNat : Int) != 125) = false) : cOk (L t) = true := by
  have a : (bat (L t) (cEnd (L t)) == 125) = true := by rw [he, bat_L t _ h]; simpa using hc.2
  have b : ¬ dEnd (L t) 1 = 1 := by simp at h1; omega
  have c : ¬ cEnd (L t) = (L t).length := by rw [L_len]; omega
  simp only [cOk, a]; simp [b, c]

set_option maxHeartbeats 800000 in
/-- repeatCount, function 22, at every text of at least one byte -/
theorem repeatCount_any (t : ByteArray) (w : World) (hs : t.size ≤ maxLen) (h1 : 1 ≤ t.size) :
    Calls Try.prog 22 #[.string t] w fun e w' => e = .returned (.tuple #[.int .i64 (rcN (L t)), .bool (rcZ (L t))]) ∧ Grown w w' := by
  have b1 := dEnd_ge (L t) 1
  have b2 := dEnd_le (L t) 1 (by rw [L_len]; omega)
  rw [L_len] at b2
  have b3 := dEnd_ge (L t) (dEnd (L t) 1 + 1)
  have b4 : dEnd (L t) 1 < t.size → dEnd (L t) (dEnd (L t) 1 + 1) ≤ t.size := fun h => by have := dEnd_le (L t) (dEnd (L t) 1 + 1) (by rw [L_len]; omega); rw [L_len] at this; exact this
  have hs' := hs
  unfold maxLen at hs'
  go_enter Try.func22, Try.ntmps22
  go_wp2_with fail
  refine (digits_in t 1 false w hs h1).mono ?_
  rintro e w' ⟨rfl, rfl⟩
  go_wp2_with fail
  · have t1 : ((dEnd (L t) 1 : Int) == 1) = true := by assumption
    go_ret2
    exact ⟨ret_pair (rcN_no (cOk_one t1)) (rcZ_no (cOk_one t1)), by repeat (first | exact Grown.refl _ | apply Grown.drew | apply Grown.alloc)⟩
  · have t1 : ((dEnd (L t) 1 : Int) == 1) = false := by assumption
    have t2 : dEnd (L t) 1 < t.size := by assumption
    have t3 : (((t[dEnd (L t) 1]'t2).toNat : Int) == 44) = true := by assumption
    refine (digits_at t (dEnd (L t) 1 + 1) _ (by omega) _ w hs (by omega)).mono ?_
    rintro e w' ⟨rfl, rfl⟩
    have b5 := b4 t2
    have HE : Hid (cEnd (L t) = dEnd (L t) (dEnd (L t) 1 + 1)) := cEnd_comma t t2 t3
    have HZ : Hid (cZ (L t) = (lzAt (L t) 1 || lzAt (L t) (dEnd (L t) 1 + 1))) := cZ_comma t t2 t3
    clear b4
    go_wp2
    · have t4 : ((dEnd (L t) (dEnd (L t) 1 + 1) : Nat) : Int) = (t.size : Int) := by assumption
      have hc := cOk_full t (by rw [HE.out]; exact t4)
      go_ret2
      exact ⟨ret_pair (rcN_no hc) (rcZ_no hc), by repeat (first | exact Grown.refl _ | apply Grown.drew | apply Grown.alloc)⟩
    · have t4 : dEnd (L t) (dEnd (L t) 1 + 1) < t.size := by assumption
      have t5 : ((dEnd (L t) (dEnd (L t) 1 + 1) : Int) == (t.size : Int)) = true ∨ (((t[dEnd (L t) (dEnd (L t) 1 + 1)]'t4).toNat : Int) != 125) = true := by assumption
      have hc := cOk_bad t _ HE.out t4 t5
      go_ret2
      exact ⟨ret_pair (rcN_no hc) (rcZ_no hc), by repeat (first | exact Grown.refl _ | apply Grown.drew | apply Grown.alloc)⟩
    · have t4 : dEnd (L t) (dEnd (L t) 1 + 1) < t.size := by assumption
      have t5 : ((dEnd (L t) (dEnd (L t) 1 + 1) : Int) == (t.size : Int)) = false ∧ (((t[dEnd (L t) (dEnd (L t) 1 + 1)]'t4).toNat : Int) != 125) = false := by assumption
      have hc := cOk_good t _ HE.out t4 t1 t5
      have HN : Hid (((dEnd (L t) (dEnd (L t) 1 + 1) : Nat) : Int) + 1 = rcN (L t)) := rcN_yes hc HE.out
      have HZ' : Hid ((lzAt (L t) 1 || lzAt (L t) (dEnd (L t) 1 + 1)) = rcZ (L t)) := HZ.out.symm.trans (rcZ_yes hc)
      clear hc
      go_region
      all_goals go_wp2
      all_goals go_ret2
      all_goals exact ⟨ret_pair HN.out HZ'.out, by repeat (first | exact Grown.refl _ | apply Grown.drew | apply Grown.alloc)⟩
  · have t2 : dEnd (L t) 1 < t.size := by assumption
    have t3 : (((t[dEnd (L t) 1]'t2).toNat : Int) == 44) = false := by assumption
    have t4 : ((dEnd (L t) 1 : Int) == (t.size : Int)) = true ∨ (((t[dEnd (L t) 1]'t2).toNat : Int) != 125) = true := by assumption
    have hc := cOk_bad t _ (cEnd_plain t t2 t3) t2 t4
    go_ret2
    exact ⟨ret_pair (rcN_no hc) (rcZ_no hc), by repeat (first | exact Grown.refl _ | apply Grown.drew | apply Grown.alloc)⟩
  · have t1 : ((dEnd (L t) 1 : Int) == 1) = false := by assumption
    have t2 : dEnd (L t) 1 < t.size := by assumption
    have t3 : (((t[dEnd (L t) 1]'t2).toNat : Int) == 44) = false := by assumption
    have t4 : ((dEnd (L t) 1 : Int) == (t.size : Int)) = false ∧ (((t[dEnd (L t) 1]'t2).toNat : Int) != 125) = false := by assumption
    have hc := cOk_good t _ (cEnd_plain t t2 t3) t2 t1 t4
    have HN : Hid (((dEnd (L t) 1 : Nat) : Int) + 1 = rcN (L t)) := rcN_yes hc (cEnd_plain t t2 t3)
    have HZ : Hid (lzAt (L t) 1 = rcZ (L t)) := (cZ_plain t t2 t3).symm.trans (rcZ_yes hc)
    clear hc
    go_region
    all_goals go_wp2
    all_goals go_ret2
    all_goals exact ⟨ret_pair HN.out HZ.out, by repeat (first | exact Grown.refl _ | apply Grown.drew | apply Grown.alloc)⟩
  · have t2 : ¬ dEnd (L t) 1 < t.size := by assumption
    have t3 : ((dEnd (L t) 1 : Nat) : Int) = (t.size : Int) := by assumption
    have hc := cOk_full t (by rw [cEnd_past t t2]; exact t3)
    go_ret2
    exact ⟨ret_pair (rcN_no hc) (rcZ_no hc), by repeat (first | exact Grown.refl _ | apply Grown.drew | apply Grown.alloc)⟩
end Go.Proofs.Qxb6001027a.Walks
