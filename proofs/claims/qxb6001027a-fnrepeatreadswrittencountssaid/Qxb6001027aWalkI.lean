import Derived.Test.Qxb6001027aWalkF
import Derived.Test.Qxb6001027aPlainB
namespace Go.Proofs.Qxb6001027a.Walks
open Go.RowKit Go.Proofs.Qxb6001027a.Plain

theorem Li_rest (s : ByteArray) (i : Nat) : L (s.extract i s.size) = (L s).drop i := by
  rw [L_extract, List.take_of_length_le (by rw [L_len]; omega)]

section
variable (P T Q : ByteArray)
theorem L_three : L (P ++ T ++ Q) = L P ++ (L T ++ L Q) := by rw [L_append, L_append, List.append_assoc]
theorem S_rest : L ((P ++ T ++ Q).extract P.size (P ++ T ++ Q).size) = L T ++ L Q := by
  rw [Li_rest, L_three, ← L_len P, List.drop_left]
theorem S_text : (P ++ T ++ Q).extract P.size (P.size + T.size) = T := by
  have : L ((P ++ T ++ Q).extract P.size (P.size + T.size)) = L T := by
    rw [L_extract, L_three, List.drop_take, ← L_len P, List.drop_left, ← L_len T, show (L P).length + (L T).length - (L P).length = (L T).length by omega, List.take_left]
  exact WideShapes.bytes_inj this
theorem S_size : (P ++ T ++ Q).size = P.size + T.size + Q.size := by simp
theorem S_first (h : P.size < (P ++ T ++ Q).size) (hT : 1 ≤ T.size) (h0 : bat (L T) 0 = 123) : ((((P ++ T ++ Q)[P.size]'h).toNat : Int) == 123) = true := by
  rw [← bat_L _ _ h, L_three, ← L_len P, bat_app_at, bat_app_left _ _ _ (by rw [L_len]; omega), h0]; rfl
/-- is there a '?' ahead? -/
def qn : Nat := if 0 < Q.size ∧ bat (L Q) 0 = 63 then 1 else 0
theorem S_next : nx (P ++ T ++ Q) (P.size + T.size) = P.size + T.size + qn Q := by
  have e : bat (L (P ++ T ++ Q)) (P.size + T.size) = bat (L Q) 0 := by
    rw [L_append, show P.size + T.size = (L (P ++ T)).length by rw [L_len]; simp, bat_app_at]
  unfold nx qn
  rw [e, S_size]
  by_cases h : 0 < Q.size ∧ bat (L Q) 0 = 63
  · rw [if_pos ⟨by omega, h.2⟩, if_pos h]
  · rw [if_neg (fun x => h ⟨by omega, x.2⟩), if_neg h]; rfl
end

theorem ctext_first (f pl ph : Nat) (A B : List UInt8) : bat (ctext f pl ph A B) 0 = 123 := rfl

/-- ZZRepeat, function 16, at a written count behind other text: refused where a number has a leading zero -/
theorem zz_zero (P T Q : ByteArray) (f pl ph : Nat) (A B : List UInt8) (hf : f ≤ 2) (hA : NumL A) (hB : NumL B) (hL : L T = ctext f pl ph A B) (hT : 1 ≤ T.size) (hs : (P ++ T ++ Q).size ≤ maxLen) (hw : cwant f pl ph = true) (w : World) :
    Calls Try.prog 16 #[.string (P ++ T ++ Q), .int .i64 P.size] w fun e w' => e = .returned (.tuple #[.int .i64 0, .string T]) ∧ Grown w w' := by
  have hp := rc_written f pl ph A B (L Q) hf hA hB
  rw [← hL, ← S_rest P T Q, L_len T] at hp
  have hi : P.size < (P ++ T ++ Q).size := by rw [S_size]; omega
  refine zzRepeat_of _ _ _ _ _ (fun b w hc => ?_)
  have := repeat_zero (P ++ T ++ Q) P.size b T.size w hs hi hc (S_first P T Q hi hT (by rw [hL]; exact ctext_first _ _ _ _ _)) hp.1 (hp.2.trans hw) (by rw [S_size]; omega)
  rw [S_text] at this
  exact this
theorem zz_count (P T Q : ByteArray) (f pl ph : Nat) (A B : List UInt8) (hf : f ≤ 2) (hA : NumL A) (hB : NumL B) (hL : L T = ctext f pl ph A B) (hT : 1 ≤ T.size) (hs : (P ++ T ++ Q).size ≤ maxLen) (hw : cwant f pl ph = false) (w : World) :
    Calls Try.prog 16 #[.string (P ++ T ++ Q), .int .i64 P.size] w fun e w' => e = .returned (.tuple #[.int .i64 (P.size + T.size + qn Q : Nat), .string ⟨#[]⟩]) ∧ Grown w w' := by
  have hp := rc_written f pl ph A B (L Q) hf hA hB
  rw [← hL, ← S_rest P T Q, L_len T] at hp
  have hi : P.size < (P ++ T ++ Q).size := by rw [S_size]; omega
  refine zzRepeat_of _ _ _ _ _ (fun b w hc => ?_)
  have := repeat_count (P ++ T ++ Q) P.size b T.size w hs hi hc (S_first P T Q hi hT (by rw [hL]; exact ctext_first _ _ _ _ _)) hp.1 (hp.2.trans hw) (by rw [S_size]; omega)
  rw [S_next] at this
  exact this
theorem qn_zero (Q : ByteArray) (h : ¬ 0 < Q.size) : qn Q = 0 := by unfold qn; rw [if_neg (fun x => h x.1)]
theorem qn_yes (Q : ByteArray) (h : 0 < Q.size) (hc : (((Q[0]'h).toNat : Int) == 63) = true) : qn Q = 1 := by
  unfold qn; rw [if_pos ⟨h, by rw [bat_L Q 0 h]; simpa using hc⟩]
theorem qn_no (Q : ByteArray) (h : 0 < Q.size) (hc : (((Q[0]'h).toNat : Int) == 63) = false) : qn Q = 0 := by
  unfold qn; rw [if_neg (fun x => by rw [bat_L Q 0 h] at x; simp at hc; exact hc x.2)]
end Go.Proofs.Qxb6001027a.Walks
