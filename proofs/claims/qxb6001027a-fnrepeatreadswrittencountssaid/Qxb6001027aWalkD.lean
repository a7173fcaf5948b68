import Derived.Test.Qxb6001027aWalkC
namespace Go.Proofs.Qxb6001027a.Walks
open Go.RowKit Go.Proofs.Qxb6001027a.Plain

theorem Grown.trans {a b c : World} (h : Grown a b) (k : Grown b c) : Grown a c :=
  ⟨World.keptBut_trans h.1 (World.keptBut_mono (fun _ f => f.elim) k.1), fun x => (k.2.1 x).trans (h.2.1 x), Nat.le_trans h.2.2 k.2.2⟩

/-- the count's text: form 0 {A}, form 1 {A,}, form 2 {A,B}, each number behind its zeros -/
def ctext (f pl ph : Nat) (A B : List UInt8) : List UInt8 :=
  123 :: (List.replicate pl 48 ++ A ++ ((if f = 0 then [] else 44 :: (if f = 1 then [] else List.replicate ph 48 ++ B)) ++ [125]))
/-- is a number of it written with a leading zero? -/
def cwant (f pl ph : Nat) : Bool := decide (0 < pl) || (decide (f = 2) && decide (0 < ph))

theorem L_append (a b : ByteArray) : L (a ++ b) = L a ++ L b := by simp [L]
theorem L_zeros (n : Nat) : L (zerosA n) = List.replicate n 48 := by simp [L, zerosA]
theorem text0 (pl ph : Nat) (s : ByteArray) (B : List UInt8) : L (⟨#[123]⟩ ++ zerosA pl ++ s ++ ⟨#[125]⟩) = ctext 0 pl ph (L s) B := by
  simp only [L_append, L_zeros, ctext]; simp [L]
theorem text1 (pl ph : Nat) (s : ByteArray) (B : List UInt8) : L (⟨#[123]⟩ ++ zerosA pl ++ s ++ ⟨#[44]⟩ ++ ⟨#[125]⟩) = ctext 1 pl ph (L s) B := by
  simp only [L_append, L_zeros, ctext]; simp [L]
theorem text2 (pl ph : Nat) (s s2 : ByteArray) : L (⟨#[123]⟩ ++ zerosA pl ++ s ++ ⟨#[44]⟩ ++ (zerosA ph ++ s2) ++ ⟨#[125]⟩) = ctext 2 pl ph (L s) (L s2) := by
  simp only [L_append, L_zeros, ctext]; simp [L]

theorem want_pos {f pl ph : Nat} (h : ¬ pl = 0) : cwant f pl ph = true := by simp [cwant]; omega
theorem want_two {pl ph : Nat} (h : pl = 0) : cwant 2 pl ph = decide (0 < ph) := by simp [cwant, h]
theorem want_one {f pl ph : Nat} (h : pl = 0) (hf : f ≠ 2) : cwant f pl ph = false := by simp [cwant, h, hf]
theorem ret_sb {a b : ByteArray} {x y : Bool} (h : a = b) (k : x = y) : Ending.returned (.tuple #[.string a, .bool x]) = .returned (.tuple #[.string b, .bool y]) := by rw [h, k]

/-- what hCountText leaves -/
def TextPost (f pl ph : Nat) (w : World) (e : Ending) (w' : World) : Prop :=
  ∃ s A B, e = .returned (.tuple #[.string s, .bool (cwant f pl ph)]) ∧ NumL A ∧ NumL B ∧ L s = ctext f pl ph A B ∧ Grown w w'

set_option maxHeartbeats 400000 in
theorem hCountText_2 (a1 a2 a3 a4 a5 : Int) (pl ph : Nat) (w1 : 0 ≤ a1 ∧ a1 ≤ 18446744073709551615) (w2 : 0 ≤ a2 ∧ a2 ≤ 18446744073709551615) (h3 : 0 ≤ a3 ∧ a3 ≤ 255) (h4 : 0 ≤ a4 ∧ a4 ≤ 255) (h5 : 0 ≤ a5 ∧ a5 ≤ 255)
    (e4 : a4 % 8 = pl) (e5 : a5 % 8 = ph) (e3 : a3 % 3 = 2) (w : World) :
    Calls Try.prog 14 #[.int .u64 a1, .int .u64 a2, .int .u8 a3, .int .u8 a4, .int .u8 a5] w (TextPost 2 pl ph w) := by
  have b4 : pl ≤ 7 := by omega
  have b5 : ph ≤ 7 := by omega
  have z4 := zerosA_size pl
  have z5 := zerosA_size ph
  go_enter Try.func14, Try.ntmps14
  go_wp2_with fail
  refine (hZeros_any pl b4 _).mono ?_
  rintro e w' ⟨rfl, rfl⟩
  go_wp2_with fail
  refine (hItoa_any a1 w1.1 w1.2 _).mono ?_
  rintro e w' ⟨s, rfl, hA, hg1⟩
  have hA' : Hid (NumL (L s)) := hA
  have sA := hA.2.1
  rw [L_len] at sA
  clear hA
  go_wp2_with fail
  refine (hZeros_any ph b5 _).mono ?_
  rintro e w' ⟨rfl, rfl⟩
  go_wp2_with fail
  refine (hItoa_any a2 w2.1 w2.2 _).mono ?_
  rintro e w' ⟨s2, rfl, hB, hg2⟩
  have hB' : Hid (NumL (L s2)) := hB
  have sB := hB.2.1
  rw [L_len] at sB
  clear hB
  go_wp2_with fail
  · have h : pl = 0 := by assumption
    go_ret2
    exact ⟨_, _, _, ret_sb rfl (want_two h).symm, hA'.out, hB'.out, by rw [h]; exact text2 0 ph s s2, Grown.trans hg1 hg2⟩
  · have h : ¬ pl = 0 := by assumption
    go_ret2
    exact ⟨_, _, _, ret_sb rfl (want_pos h).symm, hA'.out, hB'.out, text2 pl ph s s2, Grown.trans hg1 hg2⟩

set_option maxHeartbeats 400000 in
theorem hCountText_1 (a1 a2 a3 a4 a5 : Int) (pl ph : Nat) (w1 : 0 ≤ a1 ∧ a1 ≤ 18446744073709551615) (h3 : 0 ≤ a3 ∧ a3 ≤ 255) (h4 : 0 ≤ a4 ∧ a4 ≤ 255) (h5 : 0 ≤ a5 ∧ a5 ≤ 255)
    (e4 : a4 % 8 = pl) (e5 : a5 % 8 = ph) (e3 : a3 % 3 = 1) (w : World) :
    Calls Try.prog 14 #[.int .u64 a1, .int .u64 a2, .int .u8 a3, .int .u8 a4, .int .u8 a5] w (TextPost 1 pl ph w) := by
  have b4 : pl ≤ 7 := by omega
  have z4 := zerosA_size pl
  go_enter Try.func14, Try.ntmps14
  go_wp2_with fail
  refine (hZeros_any pl b4 _).mono ?_
  rintro e w' ⟨rfl, rfl⟩
  go_wp2_with fail
  refine (hItoa_any a1 w1.1 w1.2 _).mono ?_
  rintro e w' ⟨s, rfl, hA, hg1⟩
  have hA' : Hid (NumL (L s)) := hA
  have sA := hA.2.1
  rw [L_len] at sA
  clear hA
  go_wp2_with fail
  · have h : pl = 0 := by assumption
    go_ret2
    exact ⟨_, _, _, ret_sb rfl (want_one h (by omega)).symm, hA'.out, hA'.out, by rw [h]; exact text1 0 ph s _, hg1⟩
  · have h : ¬ pl = 0 := by assumption
    go_ret2
    exact ⟨_, _, _, ret_sb rfl (want_pos h).symm, hA'.out, hA'.out, text1 pl ph s _, hg1⟩

set_option maxHeartbeats 400000 in
theorem hCountText_0 (a1 a2 a3 a4 a5 : Int) (pl ph : Nat) (w1 : 0 ≤ a1 ∧ a1 ≤ 18446744073709551615) (h3 : 0 ≤ a3 ∧ a3 ≤ 255) (h4 : 0 ≤ a4 ∧ a4 ≤ 255) (h5 : 0 ≤ a5 ∧ a5 ≤ 255)
    (e4 : a4 % 8 = pl) (e5 : a5 % 8 = ph) (e3 : a3 % 3 = 0) (w : World) :
    Calls Try.prog 14 #[.int .u64 a1, .int .u64 a2, .int .u8 a3, .int .u8 a4, .int .u8 a5] w (TextPost 0 pl ph w) := by
  have b4 : pl ≤ 7 := by omega
  have z4 := zerosA_size pl
  go_enter Try.func14, Try.ntmps14
  go_wp2_with fail
  refine (hZeros_any pl b4 _).mono ?_
  rintro e w' ⟨rfl, rfl⟩
  go_wp2_with fail
  refine (hItoa_any a1 w1.1 w1.2 _).mono ?_
  rintro e w' ⟨s, rfl, hA, hg1⟩
  have hA' : Hid (NumL (L s)) := hA
  have sA := hA.2.1
  rw [L_len] at sA
  clear hA
  go_wp2_with fail
  · have h : pl = 0 := by assumption
    go_ret2
    exact ⟨_, _, _, ret_sb rfl (want_one h (by omega)).symm, hA'.out, hA'.out, by rw [h]; exact text0 0 ph s _, hg1⟩
  · have h : ¬ pl = 0 := by assumption
    go_ret2
    exact ⟨_, _, _, ret_sb rfl (want_pos h).symm, hA'.out, hA'.out, text0 pl ph s _, hg1⟩

/-- hCountText, function 14 -/
theorem hCountText_any (a1 a2 a3 a4 a5 : Int) (w1 : 0 ≤ a1 ∧ a1 ≤ 18446744073709551615) (w2 : 0 ≤ a2 ∧ a2 ≤ 18446744073709551615) (h3 : 0 ≤ a3 ∧ a3 ≤ 255) (h4 : 0 ≤ a4 ∧ a4 ≤ 255) (h5 : 0 ≤ a5 ∧ a5 ≤ 255) (w : World) :
    Calls Try.prog 14 #[.int .u64 a1, .int .u64 a2, .int .u8 a3, .int .u8 a4, .int .u8 a5] w (fun e w' => ∃ f pl ph, f ≤ 2 ∧ pl ≤ 7 ∧ ph ≤ 7 ∧ TextPost f pl ph w e w') := by
  obtain ⟨pl, hpl⟩ : ∃ n : Nat, a4 % 8 = n := ⟨(a4 % 8).toNat, by omega⟩
  obtain ⟨ph, hph⟩ : ∃ n : Nat, a5 % 8 = n := ⟨(a5 % 8).toNat, by omega⟩
  rcases (show a3 % 3 = 0 ∨ a3 % 3 = 1 ∨ a3 % 3 = 2 by omega) with h | h | h
  · exact (hCountText_0 a1 a2 a3 a4 a5 pl ph w1 h3 h4 h5 hpl hph h w).mono fun e w' hh => ⟨0, pl, ph, by omega, by omega, by omega, hh⟩
  · exact (hCountText_1 a1 a2 a3 a4 a5 pl ph w1 h3 h4 h5 hpl hph h w).mono fun e w' hh => ⟨1, pl, ph, by omega, by omega, by omega, hh⟩
  · exact (hCountText_2 a1 a2 a3 a4 a5 pl ph w1 w2 h3 h4 h5 hpl hph h w).mono fun e w' hh => ⟨2, pl, ph, by omega, by omega, by omega, hh⟩
end Go.Proofs.Qxb6001027a.Walks
