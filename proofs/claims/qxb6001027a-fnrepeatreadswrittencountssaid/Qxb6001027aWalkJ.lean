import Derived.Test.Qxb6001027aWalkI
namespace Go.Proofs.Qxb6001027a.Walks
open Go.RowKit Go.Proofs.Qxb6001027a.Plain

theorem sz_q (a : ByteArray) : ((⟨#[63]⟩ : ByteArray) ++ a).size = 1 + a.size := by
  rw [← L_len, L_append, List.length_append, L_len]; rfl
theorem no_q (a : ByteArray) : (⟨#[]⟩ : ByteArray) ++ a = a := ByteArray.empty_append
theorem sz_of (P T Q : ByteArray) (h : P.size + T.size + Q.size ≤ 2000000) : (P ++ T ++ Q).size ≤ maxLen := by rw [S_size]; unfold maxLen; omega

set_option maxRecDepth 100000 in
set_option maxHeartbeats 1000000 in
/-- the law where the lengths are within its guards -/
theorem walk_in (a0 : ByteArray) (a1 a2 a3 a4 a5 : Int) (a6 : Bool) (a7 : ByteArray) (h0 : a0.size ≤ 524288) (r1 : 0 ≤ a1 ∧ a1 ≤ 18446744073709551615) (r2 : 0 ≤ a2 ∧ a2 ≤ 18446744073709551615)
    (r3 : 0 ≤ a3 ∧ a3 ≤ 255) (r4 : 0 ≤ a4 ∧ a4 ≤ 255) (r5 : 0 ≤ a5 ∧ a5 ≤ 255) (h7 : a7.size ≤ 524288) (w : World) :
    Calls Try.prog 8 #[.string a0, .int .u64 a1, .int .u64 a2, .int .u8 a3, .int .u8 a4, .int .u8 a5, .bool a6, .string a7] w fun e w' => e = .returned (.bool true) ∧ Grown w w' := by
  go_enter Try.func8, Try.ntmps8
  go_wp2_with (go_at_call 21; go_in)
  refine (hCountText_any a1 a2 a3 a4 a5 r1 r2 r3 r4 r5 _).mono ?_
  rintro e w' ⟨f, pl, ph, hf, hpl, hph, T, A, B, rfl, hA, hB, hL, hg⟩
  have hlen := ctext_len f pl ph A B hpl hph hA hB
  rw [← hL, L_len] at hlen
  have HF : Hid (f ≤ 2) := hf
  have HA : Hid (NumL A) := hA
  have HB : Hid (NumL B) := hB
  have HL : Hid (L T = ctext f pl ph A B) := hL
  clear hA hB hL hf hpl hph
  cases a6 with
  | true =>
    cases hw : cwant f pl ph with
    | true =>
      have HW : Hid (cwant f pl ph = true) := hw
      clear hw
      go_wp2_with fail
      refine (zz_zero a0 T _ f pl ph A B HF.out HA.out HB.out HL.out hlen.1 (sz_of _ _ _ (by rw [sz_q]; omega)) HW.out _).mono ?_
      rintro e w2 ⟨rfl, hg2⟩
      go_wp2_with fail
      go_ret
      exact ⟨rfl, GrownF.trans hg hg2⟩
    | false =>
      have HW : Hid (cwant f pl ph = false) := hw
      clear hw
      have hq0 : 0 < ((⟨#[63]⟩ : ByteArray) ++ a7).size := by rw [sz_q]; omega
      have hq : (((((⟨#[63]⟩ : ByteArray) ++ a7)[0]'hq0).toNat : Int) == 63) = true := by
        rw [← bat_L _ 0 hq0, L_append]; rfl
      have HQ : Hid (qn ((⟨#[63]⟩ : ByteArray) ++ a7) = 1) := qn_yes _ hq0 hq
      go_wp2_with fail
      refine (zz_count a0 T _ f pl ph A B HF.out HA.out HB.out HL.out hlen.1 (sz_of _ _ _ (by rw [sz_q]; omega)) HW.out _).mono ?_
      rintro e w2 ⟨rfl, hg2⟩
      rw [HQ.out]
      go_wp2_with fail
      go_ret
      exact ⟨rfl, GrownF.trans hg hg2⟩
  | false =>
    cases hw : cwant f pl ph with
    | true =>
      have HW : Hid (cwant f pl ph = true) := hw
      clear hw
      go_wp2_with fail
      rw [no_q]
      refine (zz_zero a0 T _ f pl ph A B HF.out HA.out HB.out HL.out hlen.1 (sz_of _ _ _ (by omega)) HW.out _).mono ?_
      rintro e w2 ⟨rfl, hg2⟩
      go_wp2_with fail
      go_ret
      exact ⟨rfl, GrownF.trans hg hg2⟩
    | false =>
      have HW : Hid (cwant f pl ph = false) := hw
      clear hw
      by_cases hq0 : 0 < a7.size
      · cases hq : (((a7[0]'hq0).toNat : Int) == 63) with
        | true =>
          have HQ : Hid (qn a7 = 1) := qn_yes a7 hq0 hq
          go_wp2_with fail
          rw [no_q]
          refine (zz_count a0 T a7 f pl ph A B HF.out HA.out HB.out HL.out hlen.1 (sz_of _ _ _ (by omega)) HW.out _).mono ?_
          rintro e w2 ⟨rfl, hg2⟩
          rw [HQ.out]
          go_wp2_with fail
          go_ret
          exact ⟨rfl, GrownF.trans hg hg2⟩
        | false =>
          have HQ : Hid (qn a7 = 0) := qn_no a7 hq0 hq
          go_wp2_with fail
          rw [no_q]
          refine (zz_count a0 T a7 f pl ph A B HF.out HA.out HB.out HL.out hlen.1 (sz_of _ _ _ (by omega)) HW.out _).mono ?_
          rintro e w2 ⟨rfl, hg2⟩
          rw [HQ.out]
          go_wp2_with fail
          go_ret
          exact ⟨rfl, GrownF.trans hg hg2⟩
      · have HQ : Hid (qn a7 = 0) := qn_zero a7 hq0
        go_wp2_with fail
        rw [no_q]
        refine (zz_count a0 T a7 f pl ph A B HF.out HA.out HB.out HL.out hlen.1 (sz_of _ _ _ (by omega)) HW.out _).mono ?_
        rintro e w2 ⟨rfl, hg2⟩
        rw [HQ.out]
        go_wp2_with fail
        go_ret
        exact ⟨rfl, GrownF.trans hg hg2⟩
end Go.Proofs.Qxb6001027a.Walks
