import Derived.Test.Qxb6001236aWalkB
import Derived.Test.Qxb6001236aWalkD
namespace Go.Proofs.Qxb6001236a.Walks
open Go.RowKit Go.Proofs.Qxb6001236a.Plain Go.Sort
set_option linter.unusedVariables false

/-- the three make-ups of a book's units -/
def Cfg (st sz lo : Nat) : Prop := (sz = 1 ∧ lo = 0 ∧ st ≤ 3) ∨ (sz = 2 ∧ lo = 0 ∧ st = 2) ∨ (sz = 2 ∧ lo = 1 ∧ st = 2)
theorem Cfg.sz {st sz lo : Nat} (h : Cfg st sz lo) : sz = 1 ∨ sz = 2 := by unfold Cfg at h; omega
theorem cfg_of (ds : List Int) : Cfg (uSt ds) (uSz ds) (uLo ds) ∧ uSt ds ≤ ds.length := by
  unfold Cfg uSt uSz uLo
  cases h1 : P1 ds with
  | true =>
    have : 2 ≤ ds.length := by unfold P1 at h1; simp at h1; exact h1.1
    simp; exact this
  | false =>
    cases h2 : P2 ds with
    | true =>
      have : 2 ≤ ds.length := by unfold P2 at h2; simp at h2; exact h2.1
      simp; exact this
    | false =>
      cases h3 : P3 ds with
      | true =>
        have : 3 ≤ ds.length := by unfold P3 at h3; simp at h3; exact h3.1
        simp; exact this
      | false => simp

theorem asc_past (ds : List Int) (st sz lo i : Nat) (h : uN ds.length st sz ≤ i) : asc ds st sz lo i = 128 := by unfold asc; rw [if_pos h]
theorem asc_hi (ds : List Int) (st sz lo i : Nat) (h : 128 ≤ bt ds (st + i * sz + lo)) : asc ds st sz lo i = 128 := by
  unfold asc
  by_cases g : uN ds.length st sz ≤ i
  · rw [if_pos g]
  · rw [if_neg g, if_pos h]
theorem asc_one (ds : List Int) (st lo i : Nat) (h : ¬ uN ds.length st 1 ≤ i) (h1 : ¬ 128 ≤ bt ds (st + i * 1 + lo)) : asc ds st 1 lo i = bt ds (st + i * 1 + lo) := by
  unfold asc; rw [if_neg h, if_neg h1, if_neg (by omega)]
theorem asc_nz (ds : List Int) (st lo i : Nat) (h : bt ds (st + i * 2 + lo + 1 - 2 * lo) ≠ 0) : asc ds st 2 lo i = 128 := by
  unfold asc; split
  · rfl
  · split
    · rfl
    · rw [if_pos ⟨rfl, h⟩]
theorem asc_z (ds : List Int) (st lo i : Nat) (h : ¬ uN ds.length st 2 ≤ i) (h1 : ¬ 128 ≤ bt ds (st + i * 2 + lo)) (h2 : bt ds (st + i * 2 + lo + 1 - 2 * lo) = 0) : asc ds st 2 lo i = bt ds (st + i * 2 + lo) := by
  unfold asc; rw [if_neg h, if_neg h1, if_neg (fun x => x.2 h2)]
/-- a unit is a byte's number -/
theorem asc_range (ds : List Int) (st sz lo i : Nat) (h : ∀ i, 0 ≤ bt ds i ∧ bt ds i ≤ 255) : 0 ≤ asc ds st sz lo i ∧ asc ds st sz lo i ≤ 255 := by
  unfold asc
  have := h (st + i * sz + lo)
  (repeat' split) <;> omega

/-- ascii, function 27 -/
theorem ascii_any (b len cap st sz lo i : Nat) (ds : List Int) (w : World) (hB : Book w b len cap ds) (hc : Cfg st sz lo) (h1 : st ≤ len) :
    Calls Try.prog 27 #[.agg #[.slice (some ⟨b, 0, none⟩) len cap, .int .i64 st, .int .i64 sz, .int .i64 lo], .int .i64 i] w fun e w' => e = .returned (.int .u8 (asc ds st sz lo i)) ∧ Below w.heap.size w w' := by
  obtain ⟨⟨hl, h2, hcell, hr⟩, hlc, hcm, hbw⟩ := hB
  by_cases hi : uN len st sz ≤ i
  · rw [asc_past ds st sz lo i (by rw [hl]; exact hi)]
    exact ascii_past (some ⟨b, 0, none⟩) len cap st sz lo i hc.sz h1 h2 hi w
  · have hi' : ¬ uN ds.length st sz ≤ i := by rw [hl]; exact hi
    rcases hc with ⟨rfl, rfl, h3⟩ | ⟨rfl, rfl, rfl⟩ | ⟨rfl, rfl, rfl⟩
    · have ho : st + i * 1 + 0 < len := by unfold uN at hi; omega
      by_cases hc7 : 128 ≤ bt ds (st + i * 1 + 0)
      · rw [asc_hi ds st 1 0 i hc7]
        exact ascii_hi10 b len cap st i _ _ w rfl ho (hcell _ ho) h2 h1 h3 (by omega) hbw hc7
      · rw [asc_one ds st 0 i hi' hc7]
        exact ascii_lo10 b len cap st i _ _ w rfl ho (hcell _ ho) h2 h1 h3 (by omega) hbw (by omega)
    · have ho : 2 + i * 2 + 0 < len := by unfold uN at hi; omega
      have ho2 : 2 + i * 2 + 0 + 1 < len := by unfold uN at hi; omega
      by_cases hc7 : 128 ≤ bt ds (2 + i * 2 + 0)
      · rw [asc_hi ds 2 2 0 i hc7]
        exact ascii_hi20 b len cap 2 i _ _ w rfl ho (hcell _ ho) h2 h1 (by omega) (by omega) hbw hc7
      · by_cases hz : bt ds (2 + i * 2 + 0 + 1 - 2 * 0) = 0
        · rw [asc_z ds 2 0 i hi' hc7 hz]
          exact ascii_z20 b len cap 2 i _ _ w rfl ho (hcell _ ho) h2 h1 (by omega) (by omega) hbw (by omega) ho2 (by rw [hcell _ ho2]; exact congrArg (fun x => some (Value.int .u8 x)) hz)
        · rw [asc_nz ds 2 0 i hz]
          exact ascii_nz20 b len cap 2 i _ _ w rfl ho (hcell _ ho) h2 h1 (by omega) (by omega) hbw (by omega) ho2 _ (bne_iff_ne.2 hz) (hcell _ ho2)
    · have ho : 2 + i * 2 + 1 < len := by unfold uN at hi; omega
      have ho2 : 2 + i * 2 + 1 - 1 < len := by omega
      have e2 : 2 + i * 2 + 1 - 1 = 2 + i * 2 + 1 + 1 - 2 * 1 := by omega
      by_cases hc7 : 128 ≤ bt ds (2 + i * 2 + 1)
      · rw [asc_hi ds 2 2 1 i hc7]
        exact ascii_hi21 b len cap 2 i _ _ w rfl ho (hcell _ ho) h2 h1 (by omega) (by omega) hbw hc7
      · by_cases hz : bt ds (2 + i * 2 + 1 + 1 - 2 * 1) = 0
        · rw [asc_z ds 2 1 i hi' hc7 hz]
          exact ascii_z21 b len cap 2 i _ _ w rfl ho (hcell _ ho) h2 h1 (by omega) (by omega) hbw (by omega) ho2 (by rw [hcell _ ho2, e2, hz])
        · rw [asc_nz ds 2 1 i hz]
          exact ascii_nz21 b len cap 2 i _ _ w rfl ho (hcell _ ho) h2 h1 (by omega) (by omega) hbw (by omega) ho2 _ (by rw [e2]; exact bne_iff_ne.2 hz) (hcell _ ho2)

theorem ascii_at (b len cap st sz lo i : Nat) (ds : List Int) (n : Int) (hn : n = i) (w : World) (hB : Book w b len cap ds) (hc : Cfg st sz lo) (h1 : st ≤ len) :
    Calls Try.prog 27 #[.agg #[.slice (some ⟨b, 0, none⟩) len cap, .int .i64 st, .int .i64 sz, .int .i64 lo], .int .i64 n] w fun e w' => e = .returned (.int .u8 (asc ds st sz lo i)) ∧ Below w.heap.size w w' := by
  subst hn; exact ascii_any b len cap st sz lo i ds w hB hc h1
theorem dI_two (u : Nat → Int) (i : Nat) (h : u i = 13) (h2 : u (i + 1) = 10) : dI u i = 1 := by unfold dI; rw [if_pos ⟨h, h2⟩]
theorem dI_cr (u : Nat → Int) (i : Nat) (h2 : ¬ u (i + 1) = 10) : dI u i = 0 := by unfold dI; rw [if_neg (fun x => h2 x.2)]
theorem dI_no (u : Nat → Int) (i : Nat) (h : ¬ u i = 13) : dI u i = 0 := by unfold dI; rw [if_neg (fun x => h x.1)]

set_option maxHeartbeats 400000 in
/-- breakAt, function 25, at a CR LF -/
theorem breakAt_two (b len cap st sz lo i : Nat) (ds : List Int) (w : World) (hB : Book w b len cap ds) (hc : Cfg st sz lo) (h1 : st ≤ len) (hi : i ≤ 4194304)
    (hu : asc ds st sz lo i = 13) (hn : asc ds st sz lo (i + 1) = 10) :
    Calls Try.prog 25 #[.agg #[.slice (some ⟨b, 0, none⟩) len cap, .int .i64 st, .int .i64 sz, .int .i64 lo], .int .i64 i] w fun e w' => e = .returned (.int .i64 (dI (asc ds st sz lo) i + 1 : Nat)) ∧ Below w.heap.size w w' := by
  have HB : Hid (Book w b len cap ds) := hB
  have HC : Hid (Cfg st sz lo) := hc
  have HU : Hid (asc ds st sz lo i = 13) := hu
  have HN : Hid (asc ds st sz lo (i + 1) = 10) := hn
  clear hB hc hu hn
  · go_enter Try.func25, Try.ntmps25
    go_wp2_with fail
    refine (ascii_any b len cap st sz lo i ds _ (HB.out.later ((Below.refl _ _).alloc (Nat.le_refl _) _)) HC.out h1).mono ?_
    rintro e w' ⟨rfl, hb⟩
    rw [HU.out]
    obtain ⟨c0, c1, c2, c3⟩ := box_cells hb
    have h0 : Below w.heap.size w w' := ((Below.refl _ _).alloc (Nat.le_refl _) _).trans (hb.mono (by simp))
    go_wp2_with fail
    refine (ascii_at b len cap st sz lo (i + 1) ds _ (by omega) w' (HB.out.later h0) HC.out h1).mono ?_
    rintro e w2 ⟨rfl, hb2⟩
    rw [HN.out]
    go_wp2_with fail
    go_ret
    exact ⟨ret_int (by rw [dI_two _ _ HU.out HN.out]; rfl), h0.trans (hb2.mono h0.size)⟩
set_option maxHeartbeats 400000 in
/-- breakAt, function 25, at a CR without LF -/
theorem breakAt_cr (b len cap st sz lo i : Nat) (ds : List Int) (w : World) (hB : Book w b len cap ds) (hc : Cfg st sz lo) (h1 : st ≤ len) (hi : i ≤ 4194304)
    (hu : asc ds st sz lo i = 13) (hn : ¬ asc ds st sz lo (i + 1) = 10) :
    Calls Try.prog 25 #[.agg #[.slice (some ⟨b, 0, none⟩) len cap, .int .i64 st, .int .i64 sz, .int .i64 lo], .int .i64 i] w fun e w' => e = .returned (.int .i64 (dI (asc ds st sz lo) i + 1 : Nat)) ∧ Below w.heap.size w w' := by
  have HB : Hid (Book w b len cap ds) := hB
  have HC : Hid (Cfg st sz lo) := hc
  have HU : Hid (asc ds st sz lo i = 13) := hu
  have HN : Hid (¬ asc ds st sz lo (i + 1) = 10) := hn
  have hn' : (asc ds st sz lo (i + 1) == 10) = false := beq_eq_false_iff_ne.2 hn
  clear hB hc hu hn
  · go_enter Try.func25, Try.ntmps25
    go_wp2_with fail
    refine (ascii_any b len cap st sz lo i ds _ (HB.out.later ((Below.refl _ _).alloc (Nat.le_refl _) _)) HC.out h1).mono ?_
    rintro e w' ⟨rfl, hb⟩
    rw [HU.out]
    obtain ⟨c0, c1, c2, c3⟩ := box_cells hb
    have h0 : Below w.heap.size w w' := ((Below.refl _ _).alloc (Nat.le_refl _) _).trans (hb.mono (by simp))
    go_wp2_with fail
    refine (ascii_at b len cap st sz lo (i + 1) ds _ (by omega) w' (HB.out.later h0) HC.out h1).mono ?_
    rintro e w2 ⟨rfl, hb2⟩
    go_wp2_with fail
    go_ret
    exact ⟨ret_int (by rw [dI_cr _ _ HN.out]; rfl), h0.trans (hb2.mono h0.size)⟩
set_option maxHeartbeats 400000 in
/-- breakAt, function 25, at an LF -/
theorem breakAt_lf (b len cap st sz lo i : Nat) (ds : List Int) (w : World) (hB : Book w b len cap ds) (hc : Cfg st sz lo) (h1 : st ≤ len)
    (hu : asc ds st sz lo i = 10) :
    Calls Try.prog 25 #[.agg #[.slice (some ⟨b, 0, none⟩) len cap, .int .i64 st, .int .i64 sz, .int .i64 lo], .int .i64 i] w fun e w' => e = .returned (.int .i64 (dI (asc ds st sz lo) i + 1 : Nat)) ∧ Below w.heap.size w w' := by
  have HB : Hid (Book w b len cap ds) := hB
  have HC : Hid (Cfg st sz lo) := hc
  have HU : Hid (asc ds st sz lo i = 10) := hu
  clear hB hc hu
  · go_enter Try.func25, Try.ntmps25
    go_wp2_with fail
    refine (ascii_any b len cap st sz lo i ds _ (HB.out.later ((Below.refl _ _).alloc (Nat.le_refl _) _)) HC.out h1).mono ?_
    rintro e w' ⟨rfl, hb⟩
    rw [HU.out]
    have h0 : Below w.heap.size w w' := ((Below.refl _ _).alloc (Nat.le_refl _) _).trans (hb.mono (by simp))
    go_wp2_with fail
    go_ret
    exact ⟨ret_int (by rw [dI_no _ _ (by rw [HU.out]; omega)]; rfl), h0⟩

/-- breakAt, function 25, at a line break -/
theorem breakAt_any (b len cap st sz lo i : Nat) (ds : List Int) (w : World) (hB : Book w b len cap ds) (hc : Cfg st sz lo) (h1 : st ≤ len) (hi : i ≤ 4194304)
    (hu : asc ds st sz lo i = 13 ∨ asc ds st sz lo i = 10) :
    Calls Try.prog 25 #[.agg #[.slice (some ⟨b, 0, none⟩) len cap, .int .i64 st, .int .i64 sz, .int .i64 lo], .int .i64 i] w fun e w' => e = .returned (.int .i64 (dI (asc ds st sz lo) i + 1 : Nat)) ∧ Below w.heap.size w w' := by
  rcases hu with hu | hu
  · by_cases hn : asc ds st sz lo (i + 1) = 10
    · exact breakAt_two b len cap st sz lo i ds w hB hc h1 hi hu hn
    · exact breakAt_cr b len cap st sz lo i ds w hB hc h1 hi hu hn
  · exact breakAt_lf b len cap st sz lo i ds w hB hc h1 hu
end Go.Proofs.Qxb6001236a.Walks
