import Derived.Test.Qxb6001236aWalkE
namespace Go.Proofs.Qxb6001236a.Walks
open Go.RowKit Go.Proofs.Qxb6001236a.Plain Go.Sort
set_option linter.unusedVariables false

theorem in_loop {w w1 wr : World} {o : Obj} (hb1 : Below w.heap.size w w1) (hW : Below (w1.alloc o).heap.size (w1.alloc o) wr) : Below w.heap.size w wr :=
  hb1.trans (((Below.refl _ _).alloc hb1.size _).trans (hW.mono (Nat.le_trans hb1.size (by simp))))

theorem bdN {B : Nat} {a w : World} (h : Below B a w) (n : Nat) : Below B a (w.drewN n) := ⟨h.os, h.tape, h.output, h.size, h.block⟩

/-- what countValues hands back -/
def cvTuple (st sz : Nat) (r : Nat × Option Nat × Nat) : Value := .tuple #[.int .i64 r.1, .int .i64 (atOf st sz r.2.1), .int .i64 r.2.2]
theorem ret3 {a b c a' b' c' : Int} (h1 : a = a') (h2 : b = b') (h3 : c = c') : Ending.returned (.tuple #[.int .i64 a, .int .i64 b, .int .i64 c]) = .returned (.tuple #[.int .i64 a', .int .i64 b', .int .i64 c']) := by rw [h1, h2, h3]

/-- a unit that opens nothing and ends no line -/
structure Plain0 (v : Int) : Prop where
  a : (v == 13) = false
  b : (v == 10) = false
  c : (v == 45) = false
  d : (v == 91) = false
  e : (v == 63) = false
  f : (v == 58) = false
  g : (v == 123) = false
  h : (v == 44) = false

theorem plain0_of {v : Int} (h : v ≠ 13 ∧ v ≠ 10 ∧ v ≠ 45 ∧ v ≠ 91 ∧ v ≠ 63 ∧ v ≠ 58 ∧ v ≠ 123 ∧ v ≠ 44) : Plain0 v := by
  obtain ⟨a, b, c, d, e, f, g, i⟩ := h
  exact ⟨beq_eq_false_iff_ne.2 a, beq_eq_false_iff_ne.2 b, beq_eq_false_iff_ne.2 c, beq_eq_false_iff_ne.2 d, beq_eq_false_iff_ne.2 e, beq_eq_false_iff_ne.2 f, beq_eq_false_iff_ne.2 g, beq_eq_false_iff_ne.2 i⟩

/-! ### the round's ends, on numbers alone -/
section
variable {u : Nat → Int} {n k cn ln d di dl : Nat} {limit : Int} {R : Nat × Option Nat × Nat}
theorem close_stop (st sz : Nat) (hrun : run u n limit n k cn ln = R) (hk : k < n) (hd : dC u k = d) (hi : dI u k = di) (hl : dL u k = dl) (hlim : limit < ((cn + d : Nat) : Int)) :
    cvTuple st sz R = .tuple #[.int .i64 ((cn + d : Nat) : Int), .int .i64 ((st + (k + di) * sz : Nat) : Int), .int .i64 ((ln + dl : Nat) : Int)] := by
  rw [← hrun, run_stop u n limit k cn ln n (by omega) hk (by rw [hd]; exact hlim), hd, hi, hl]; rfl
theorem close_step (hrun : run u n limit n k cn ln = R) (hk : k < n) (hd : dC u k = d) (hi : dI u k = di) (hl : dL u k = dl) (hlim : ¬ limit < ((cn + d : Nat) : Int)) :
    run u n limit n (k + di + 1) (cn + d) (ln + dl) = R := by
  rw [← hrun, run_step u n limit k cn ln n n (by omega) (by omega) hk (by rw [hd]; exact hlim), hd, hi, hl]
theorem dI_in (hp : ∀ i, n ≤ i → u i = 128) (hk : k < n) : k + dI u k + 1 ≤ n := by
  by_cases h : u k = 13 ∧ u (k + 1) = 10
  · have : ¬ n ≤ k + 1 := fun g => by have := hp _ g; omega
    unfold dI; rw [if_pos h]; omega
  · unfold dI; rw [if_neg h]; omega
theorem ends0 (h : u k ≠ 13 ∧ u k ≠ 10 ∧ u k ≠ 45 ∧ u k ≠ 91 ∧ u k ≠ 63 ∧ u k ≠ 58 ∧ u k ≠ 123 ∧ u k ≠ 44) : dC u k = 0 ∧ dI u k = 0 ∧ dL u k = 0 := by
  refine ⟨?_, ?_, ?_⟩
  · unfold dC; rw [if_neg (by omega), if_neg (by omega), if_neg (by omega)]
  · unfold dI; rw [if_neg (by omega)]
  · unfold dL; rw [if_neg (by omega)]
theorem endsBreak (h : u k = 13 ∨ u k = 10) : dC u k = 0 ∧ dL u k = 1 := by
  refine ⟨?_, ?_⟩
  · unfold dC; rw [if_neg (by omega), if_neg (by omega), if_neg (by omega)]
  · unfold dL; rw [if_pos h]
theorem endsDash {r : Bool} (h : u k = 45) (hs : sep (u (k + 1)) = r) : dC u k = r.toNat ∧ dI u k = 0 ∧ dL u k = 0 := by
  refine ⟨?_, ?_, ?_⟩
  · unfold dC; rw [if_pos h, hs]; cases r <;> rfl
  · unfold dI; rw [if_neg (by omega)]
  · unfold dL; rw [if_neg (by omega)]
theorem endsOpen (h : u k = 91) : dC u k = 1 ∧ dI u k = 0 ∧ dL u k = 0 := by
  refine ⟨?_, ?_, ?_⟩
  · unfold dC; rw [if_neg (by omega), if_pos h]
  · unfold dI; rw [if_neg (by omega)]
  · unfold dL; rw [if_neg (by omega)]
theorem endsTwo (h : u k = 63 ∨ u k = 58 ∨ u k = 123 ∨ u k = 44) : dC u k = 2 ∧ dI u k = 0 ∧ dL u k = 0 := by
  refine ⟨?_, ?_, ?_⟩
  · unfold dC; rw [if_neg (by omega), if_neg (by omega), if_pos h]
  · unfold dI; rw [if_neg (by omega)]
  · unfold dL; rw [if_neg (by omega)]
end
theorem mul_small {k sz : Nat} (hk : k ≤ 4194304) (hs : sz = 1 ∨ sz = 2) : 0 ≤ (k : Int) * (sz : Int) ∧ (k : Int) * (sz : Int) ≤ 8388608 := by
  rcases hs with rfl | rfl <;> omega

theorem mul_small' {k sz : Nat} (hk : k ≤ 4194304) (hs : sz = 1 ∨ sz = 2) : 0 ≤ ((k : Int) + 1) * (sz : Int) ∧ ((k : Int) + 1) * (sz : Int) ≤ 8388610 := by
  rcases hs with rfl | rfl <;> omega

set_option maxRecDepth 100000 in
set_option maxHeartbeats 2000000 in
/-- countValues, function 23, at a book -/
theorem countValues_any (b len cap : Nat) (ds : List Int) (limit : Int) (w : World) (hB : Book w b len cap ds) :
    Calls Try.prog 23 #[.slice (some ⟨b, 0, none⟩) len cap, .int .i64 limit] w fun e w' => e = .returned (cvTuple (uSt ds) (uSz ds) (cv ds limit)) ∧ Below w.heap.size w w' := by
  have HB : Hid (Book w b len cap ds) := hB
  obtain ⟨hcfg0, hst0⟩ := cfg_of ds
  have hlen : ds.length = len := hB.1.1
  have hsml : len ≤ 4194304 := hB.1.2.1
  have hrng : ∀ i, 0 ≤ bt ds i ∧ bt ds i ≤ 255 := hB.1.2.2.2
  clear hB
  go_enter Try.func23, Try.ntmps23
  go_wp2_with fail
  refine (unitsOf_any b len cap ds w HB.out).mono ?_
  rintro e w1 ⟨rfl, hb1⟩
  obtain ⟨st, hst⟩ : ∃ st, st = uSt ds := ⟨_, rfl⟩
  obtain ⟨sz, hsz⟩ : ∃ sz, sz = uSz ds := ⟨_, rfl⟩
  obtain ⟨lo, hlo⟩ : ∃ lo, lo = uLo ds := ⟨_, rfl⟩
  have hcv : cv ds limit = run (asc ds st sz lo) (uN len st sz) limit (uN len st sz) 0 4 1 := by
    rw [hst, hsz, hlo, ← hlen]; rfl
  rw [← hst, ← hsz, ← hlo] at hcfg0 ⊢
  rw [← hst, hlen] at hst0
  have HC : Hid (Cfg st sz lo) := hcfg0
  have HSt : Hid (uSt ds = st) := hst.symm
  have HSz : Hid (uSz ds = sz) := hsz.symm
  have HV : Hid (cv ds limit = run (asc ds st sz lo) (uN len st sz) limit (uN len st sz) 0 4 1) := hcv
  have HR : Hid (∀ i, 0 ≤ bt ds i ∧ bt ds i ≤ 255) := hrng
  clear hst hsz hlo hcv hcfg0 hlen hrng
  obtain ⟨n, hn⟩ : ∃ n, n = uN len st sz := ⟨_, rfl⟩
  have hn1 : n ≤ len := by rw [hn]; unfold uN; have := HC.out.sz; rcases this with h | h <;> rw [h] <;> omega
  have HN : Hid (uN len st sz = n) := hn.symm
  rw [← hn] at HV
  clear hn
  have HL : Hid (∀ w, Calls Try.prog 26 #[.agg #[.slice (some ⟨b, 0, none⟩) len cap, .int .i64 st, .int .i64 sz, .int .i64 lo]] w fun e w' => e = .returned (.int .i64 n) ∧ Below w.heap.size w w') :=
    fun w => by have := len_any (some ⟨b, 0, none⟩) len cap st sz lo HC.out.sz hst0 hsml w; rw [HN.out] at this; exact this
  go_wp2_with fail
  go_loopw [4, 6, 8] (fun c l i wr => ∃ cn ln k : Nat, c = .int .i64 cn ∧ l = .int .i64 ln ∧ i = .int .i64 k ∧ k ≤ n ∧ cn ≤ 4 + 2 * k ∧ ln ≤ 1 + k ∧
      Below (w1.alloc (.cells #[.slice (some ⟨b, 0, none⟩) len cap, .int .i64 st, .int .i64 sz, .int .i64 lo] 34)).heap.size (w1.alloc (.cells #[.slice (some ⟨b, 0, none⟩) len cap, .int .i64 st, .int .i64 sz, .int .i64 lo] 34)) wr ∧
      run (asc ds st sz lo) n limit n k cn ln = cv ds limit) (fun _ _ i _ => n - (intOf i).toNat)
  case atStart => exact ⟨4, 1, 0, rfl, rfl, rfl, by omega, by omega, by omega, Below.refl _ _, HV.out.symm⟩
  case round =>
    obtain ⟨cn, ln, k, rfl, rfl, rfl, hk, hcn, hln, hW, hrun⟩ := hrel
    have HRun : Hid (run (asc ds st sz lo) n limit n k cn ln = cv ds limit) := hrun
    clear hrun
    obtain ⟨c0, c1, c2, c3⟩ := box_cells hW
    by_cases hkn : k < n
    · have hr := asc_range ds st sz lo k HR.out
      go_wp2_with fail
      refine (HL.out _).mono ?_
      rintro e w2 ⟨rfl, hb2⟩
      have hW2 := hW.trans (hb2.mono hW.size)
      obtain ⟨e0, e1, e2, e3⟩ := box_cells hW2
      go_wp2_with fail
      refine (ascii_any b len cap st sz lo k ds _ (HB.out.later (in_loop hb1 hW2)) HC.out hst0).mono ?_
      rintro e w3 ⟨rfl, hb3⟩
      have hW3 := hW2.trans (hb3.mono hW2.size)
      clear c0 c1 c2 c3 e0 e1 e2 e3 hb2 hW hb3
      obtain ⟨c0, c1, c2, c3⟩ := box_cells hW3
      generalize hv : asc ds st sz lo k = v at hr ⊢
      have HVk : Hid (asc ds st sz lo k = v) := hv
      clear hv
      have hms := mul_small (k := k) (by omega) HC.out.sz
      by_cases q : v ≠ 13 ∧ v ≠ 10 ∧ v ≠ 45 ∧ v ≠ 91 ∧ v ≠ 63 ∧ v ≠ 58 ∧ v ≠ 123 ∧ v ≠ 44
      · obtain ⟨q1, q2, q3, q4, q5, q6, q7, q8⟩ := plain0_of q
        obtain ⟨F1, F2, F3⟩ := ends0 (u := asc ds st sz lo) (k := k) (by rw [HVk.out]; exact q)
        have E1 : Hid _ := F1
        have E2 : Hid _ := F2
        have E3 : Hid _ := F3
        clear F1 F2 F3
        clear q
        by_cases hlim : limit < (cn : Int)
        · go_wp2_with fail
          go_quiet (fail)
          go_wp2
          go_ret3
          refine ⟨?_, in_loop hb1 (bdN hW3 _)⟩
          rw [HSt.out, HSz.out, close_stop st sz HRun.out hkn E1.out E2.out E3.out (by omega)]
          exact ret3 (by first | rfl | omega | (simp only [Int.natCast_add, Int.natCast_mul]; omega) | (push_cast; rfl)) (by first | rfl | omega | (simp only [Int.natCast_add, Int.natCast_mul]; omega) | (push_cast; rfl)) (by first | rfl | omega | (simp only [Int.natCast_add, Int.natCast_mul]; omega) | (push_cast; rfl))
        · go_wp2_with fail
          go_roundw
          case rel => exact ⟨cn + 0, ln + 0, k + 0 + 1, by go_num, by go_num, by go_num, by omega, by omega, by omega, hW3, close_step HRun.out hkn E1.out E2.out E3.out (by omega)⟩
          case measure => simp [intOf]; omega
      · rcases (show v = 13 ∨ v = 10 ∨ v = 45 ∨ v = 91 ∨ v = 63 ∨ v = 58 ∨ v = 123 ∨ v = 44 by omega) with h | h | h | h | h | h | h | h
        · subst h
          clear q hr
          obtain ⟨F1, F3⟩ := endsBreak (u := asc ds st sz lo) (k := k) (by rw [HVk.out]; omega)
          have E1 : Hid _ := F1
          have E3 : Hid _ := F3
          clear F1 F3
          have hdi := dI_in (u := asc ds st sz lo) (fun i hi => asc_past ds st sz lo i (by rw [HB.out.1.1, HN.out]; exact hi)) hkn
          have hd1 := dI_le (asc ds st sz lo) k
          go_wp2_with fail
          refine (breakAt_any b len cap st sz lo k ds _ (HB.out.later (in_loop hb1 hW3)) HC.out hst0 (by omega) (.inl HVk.out)).mono ?_
          rintro e w4 ⟨rfl, hb4⟩
          have hW4 := hW3.trans (hb4.mono hW3.size)
          clear c0 c1 c2 c3
          obtain ⟨c0, c1, c2, c3⟩ := box_cells hW4
          generalize hgd : dI (asc ds st sz lo) k = di at hdi hd1 ⊢
          have E2 : Hid _ := hgd
          clear hgd
          rcases (show di = 0 ∨ di = 1 by omega) with rfl | rfl
          · clear hd1
            by_cases hlim : limit < (cn : Int)
            · go_wp2_with fail
              go_quiet (fail)
              go_wp2
              go_ret3
              refine ⟨?_, in_loop hb1 (bdN hW4 _)⟩
              rw [HSt.out, HSz.out, close_stop st sz HRun.out hkn E1.out E2.out E3.out (by omega)]
              exact ret3 (by first | rfl | omega | (simp only [Int.natCast_add, Int.natCast_mul]; omega) | (push_cast; rfl)) (by first | rfl | omega | (simp only [Int.natCast_add, Int.natCast_mul]; omega) | (push_cast; rfl)) (by first | rfl | omega | (simp only [Int.natCast_add, Int.natCast_mul]; omega) | (push_cast; rfl))
            · go_wp2_with fail
              go_roundw
              case rel => exact ⟨cn + 0, ln + 1, k + 0 + 1, by go_num, by go_num, by go_num, by omega, by omega, by omega, hW4, close_step HRun.out hkn E1.out E2.out E3.out (by omega)⟩
              case measure => simp [intOf]; omega
          · clear hd1
            have hms2 := mul_small' (k := k) (by omega) HC.out.sz
            by_cases hlim : limit < (cn : Int)
            · go_wp2_with fail
              go_quiet (fail)
              go_wp2
              go_ret3
              refine ⟨?_, in_loop hb1 (bdN hW4 _)⟩
              rw [HSt.out, HSz.out, close_stop st sz HRun.out hkn E1.out E2.out E3.out (by omega)]
              exact ret3 (by first | rfl | omega | (simp only [Int.natCast_add, Int.natCast_mul]; omega) | (push_cast; rfl)) (by first | rfl | omega | (simp only [Int.natCast_add, Int.natCast_mul]; omega) | (push_cast; rfl)) (by first | rfl | omega | (simp only [Int.natCast_add, Int.natCast_mul]; omega) | (push_cast; rfl))
            · go_wp2_with fail
              go_roundw
              case rel => exact ⟨cn + 0, ln + 1, k + 1 + 1, by go_num, by go_num, by go_num, by omega, by omega, by omega, hW4, close_step HRun.out hkn E1.out E2.out E3.out (by omega)⟩
              case measure => simp [intOf]; omega
        · subst h
          clear q hr
          obtain ⟨F1, F3⟩ := endsBreak (u := asc ds st sz lo) (k := k) (by rw [HVk.out]; omega)
          have E1 : Hid _ := F1
          have E3 : Hid _ := F3
          clear F1 F3
          have hdi := dI_in (u := asc ds st sz lo) (fun i hi => asc_past ds st sz lo i (by rw [HB.out.1.1, HN.out]; exact hi)) hkn
          have hd1 := dI_le (asc ds st sz lo) k
          go_wp2_with fail
          refine (breakAt_any b len cap st sz lo k ds _ (HB.out.later (in_loop hb1 hW3)) HC.out hst0 (by omega) (.inr HVk.out)).mono ?_
          rintro e w4 ⟨rfl, hb4⟩
          have hW4 := hW3.trans (hb4.mono hW3.size)
          clear c0 c1 c2 c3
          obtain ⟨c0, c1, c2, c3⟩ := box_cells hW4
          generalize hgd : dI (asc ds st sz lo) k = di at hdi hd1 ⊢
          have E2 : Hid _ := hgd
          clear hgd
          rcases (show di = 0 ∨ di = 1 by omega) with rfl | rfl
          · clear hd1
            by_cases hlim : limit < (cn : Int)
            · go_wp2_with fail
              go_quiet (fail)
              go_wp2
              go_ret3
              refine ⟨?_, in_loop hb1 (bdN hW4 _)⟩
              rw [HSt.out, HSz.out, close_stop st sz HRun.out hkn E1.out E2.out E3.out (by omega)]
              exact ret3 (by first | rfl | omega | (simp only [Int.natCast_add, Int.natCast_mul]; omega) | (push_cast; rfl)) (by first | rfl | omega | (simp only [Int.natCast_add, Int.natCast_mul]; omega) | (push_cast; rfl)) (by first | rfl | omega | (simp only [Int.natCast_add, Int.natCast_mul]; omega) | (push_cast; rfl))
            · go_wp2_with fail
              go_roundw
              case rel => exact ⟨cn + 0, ln + 1, k + 0 + 1, by go_num, by go_num, by go_num, by omega, by omega, by omega, hW4, close_step HRun.out hkn E1.out E2.out E3.out (by omega)⟩
              case measure => simp [intOf]; omega
          · clear hd1
            have hms2 := mul_small' (k := k) (by omega) HC.out.sz
            by_cases hlim : limit < (cn : Int)
            · go_wp2_with fail
              go_quiet (fail)
              go_wp2
              go_ret3
              refine ⟨?_, in_loop hb1 (bdN hW4 _)⟩
              rw [HSt.out, HSz.out, close_stop st sz HRun.out hkn E1.out E2.out E3.out (by omega)]
              exact ret3 (by first | rfl | omega | (simp only [Int.natCast_add, Int.natCast_mul]; omega) | (push_cast; rfl)) (by first | rfl | omega | (simp only [Int.natCast_add, Int.natCast_mul]; omega) | (push_cast; rfl)) (by first | rfl | omega | (simp only [Int.natCast_add, Int.natCast_mul]; omega) | (push_cast; rfl))
            · go_wp2_with fail
              go_roundw
              case rel => exact ⟨cn + 0, ln + 1, k + 1 + 1, by go_num, by go_num, by go_num, by omega, by omega, by omega, hW4, close_step HRun.out hkn E1.out E2.out E3.out (by omega)⟩
              case measure => simp [intOf]; omega
        · subst h
          clear q hr
          go_wp2_with fail
          refine (ascii_at b len cap st sz lo (k + 1) ds _ (by omega) _ (HB.out.later (in_loop hb1 hW3)) HC.out hst0).mono ?_
          rintro e w4 ⟨rfl, hb4⟩
          have hW4 := hW3.trans (hb4.mono hW3.size)
          clear c0 c1 c2 c3
          obtain ⟨c0, c1, c2, c3⟩ := box_cells hW4
          have hr2 := asc_range ds st sz lo (k + 1) HR.out
          generalize hv2 : asc ds st sz lo (k + 1) = v2 at hr2 ⊢
          have HV2 : Hid (asc ds st sz lo (k + 1) = v2) := hv2
          clear hv2
          by_cases p : v2 ≠ 32 ∧ v2 ≠ 9 ∧ v2 ≠ 13 ∧ v2 ≠ 10 ∧ v2 ≠ 128
          · have p1 : (v2 == 32) = false := beq_eq_false_iff_ne.2 p.1
            have p2 : (v2 == 9) = false := beq_eq_false_iff_ne.2 p.2.1
            have p3 : (v2 == 13) = false := beq_eq_false_iff_ne.2 p.2.2.1
            have p4 : (v2 == 10) = false := beq_eq_false_iff_ne.2 p.2.2.2.1
            have p5 : (v2 == 128) = false := beq_eq_false_iff_ne.2 p.2.2.2.2
            obtain ⟨F1, F2, F3⟩ := endsDash (r := false) (u := asc ds st sz lo) (k := k) HVk.out (by rw [HV2.out]; unfold sep; rw [p1, p2, p3, p4, p5]; rfl)
            have E1 : Hid (dC (asc ds st sz lo) k = 0) := F1
            have E2 : Hid _ := F2
            have E3 : Hid _ := F3
            clear F1 F2 F3
            clear p
            by_cases hlim : limit < (cn : Int)
            · go_wp2_with fail
              go_quiet (fail)
              go_wp2
              go_ret3
              refine ⟨?_, in_loop hb1 (bdN hW4 _)⟩
              rw [HSt.out, HSz.out, close_stop st sz HRun.out hkn E1.out E2.out E3.out (by omega)]
              exact ret3 (by first | rfl | omega | (simp only [Int.natCast_add, Int.natCast_mul]; omega) | (push_cast; rfl)) (by first | rfl | omega | (simp only [Int.natCast_add, Int.natCast_mul]; omega) | (push_cast; rfl)) (by first | rfl | omega | (simp only [Int.natCast_add, Int.natCast_mul]; omega) | (push_cast; rfl))
            · go_wp2_with fail
              go_roundw
              case rel => exact ⟨cn + 0, ln + 0, k + 0 + 1, by go_num, by go_num, by go_num, by omega, by omega, by omega, hW4, close_step HRun.out hkn E1.out E2.out E3.out (by omega)⟩
              case measure => simp [intOf]; omega
          · rcases (show v2 = 32 ∨ v2 = 9 ∨ v2 = 13 ∨ v2 = 10 ∨ v2 = 128 by omega) with h | h | h | h | h
            all_goals
              subst h
              clear p hr2
              obtain ⟨F1, F2, F3⟩ := endsDash (r := true) (u := asc ds st sz lo) (k := k) HVk.out (by rw [HV2.out]; rfl)
              have E1 : Hid (dC (asc ds st sz lo) k = 1) := F1
              have E2 : Hid _ := F2
              have E3 : Hid _ := F3
              clear F1 F2 F3
              by_cases hlim : limit < (cn : Int) + 1
              · go_wp2_with fail
                go_quiet (fail)
                go_wp2
                go_ret3
                refine ⟨?_, in_loop hb1 (bdN hW4 _)⟩
                rw [HSt.out, HSz.out, close_stop st sz HRun.out hkn E1.out E2.out E3.out (by omega)]
                exact ret3 (by first | rfl | omega | (simp only [Int.natCast_add, Int.natCast_mul]; omega) | (push_cast; rfl)) (by first | rfl | omega | (simp only [Int.natCast_add, Int.natCast_mul]; omega) | (push_cast; rfl)) (by first | rfl | omega | (simp only [Int.natCast_add, Int.natCast_mul]; omega) | (push_cast; rfl))
              · go_wp2_with fail
                go_roundw
                case rel => exact ⟨cn + 1, ln + 0, k + 0 + 1, by go_num, by go_num, by go_num, by omega, by omega, by omega, hW4, close_step HRun.out hkn E1.out E2.out E3.out (by omega)⟩
                case measure => simp [intOf]; omega
        · subst h
          clear q hr
          obtain ⟨F1, F2, F3⟩ := endsOpen (u := asc ds st sz lo) (k := k) HVk.out
          have E1 : Hid _ := F1
          have E2 : Hid _ := F2
          have E3 : Hid _ := F3
          clear F1 F2 F3
          by_cases hlim : limit < (cn : Int) + 1
          · go_wp2_with fail
            go_quiet (fail)
            go_wp2
            go_ret3
            refine ⟨?_, in_loop hb1 (bdN hW3 _)⟩
            rw [HSt.out, HSz.out, close_stop st sz HRun.out hkn E1.out E2.out E3.out (by omega)]
            exact ret3 (by first | rfl | omega | (simp only [Int.natCast_add, Int.natCast_mul]; omega) | (push_cast; rfl)) (by first | rfl | omega | (simp only [Int.natCast_add, Int.natCast_mul]; omega) | (push_cast; rfl)) (by first | rfl | omega | (simp only [Int.natCast_add, Int.natCast_mul]; omega) | (push_cast; rfl))
          · go_wp2_with fail
            go_roundw
            case rel => exact ⟨cn + 1, ln + 0, k + 0 + 1, by go_num, by go_num, by go_num, by omega, by omega, by omega, hW3, close_step HRun.out hkn E1.out E2.out E3.out (by omega)⟩
            case measure => simp [intOf]; omega
        · subst h
          clear q hr
          obtain ⟨F1, F2, F3⟩ := endsTwo (u := asc ds st sz lo) (k := k) (.inl HVk.out)
          have E1 : Hid _ := F1
          have E2 : Hid _ := F2
          have E3 : Hid _ := F3
          clear F1 F2 F3
          by_cases hlim : limit < (cn : Int) + 2
          · go_wp2_with fail
            go_quiet (fail)
            go_wp2
            go_ret3
            refine ⟨?_, in_loop hb1 (bdN hW3 _)⟩
            rw [HSt.out, HSz.out, close_stop st sz HRun.out hkn E1.out E2.out E3.out (by omega)]
            exact ret3 (by first | rfl | omega | (simp only [Int.natCast_add, Int.natCast_mul]; omega) | (push_cast; rfl)) (by first | rfl | omega | (simp only [Int.natCast_add, Int.natCast_mul]; omega) | (push_cast; rfl)) (by first | rfl | omega | (simp only [Int.natCast_add, Int.natCast_mul]; omega) | (push_cast; rfl))
          · go_wp2_with fail
            go_roundw
            case rel => exact ⟨cn + 2, ln + 0, k + 0 + 1, by go_num, by go_num, by go_num, by omega, by omega, by omega, hW3, close_step HRun.out hkn E1.out E2.out E3.out (by omega)⟩
            case measure => simp [intOf]; omega
        · subst h
          clear q hr
          obtain ⟨F1, F2, F3⟩ := endsTwo (u := asc ds st sz lo) (k := k) (.inr (.inl HVk.out))
          have E1 : Hid _ := F1
          have E2 : Hid _ := F2
          have E3 : Hid _ := F3
          clear F1 F2 F3
          by_cases hlim : limit < (cn : Int) + 2
          · go_wp2_with fail
            go_quiet (fail)
            go_wp2
            go_ret3
            refine ⟨?_, in_loop hb1 (bdN hW3 _)⟩
            rw [HSt.out, HSz.out, close_stop st sz HRun.out hkn E1.out E2.out E3.out (by omega)]
            exact ret3 (by first | rfl | omega | (simp only [Int.natCast_add, Int.natCast_mul]; omega) | (push_cast; rfl)) (by first | rfl | omega | (simp only [Int.natCast_add, Int.natCast_mul]; omega) | (push_cast; rfl)) (by first | rfl | omega | (simp only [Int.natCast_add, Int.natCast_mul]; omega) | (push_cast; rfl))
          · go_wp2_with fail
            go_roundw
            case rel => exact ⟨cn + 2, ln + 0, k + 0 + 1, by go_num, by go_num, by go_num, by omega, by omega, by omega, hW3, close_step HRun.out hkn E1.out E2.out E3.out (by omega)⟩
            case measure => simp [intOf]; omega
        · subst h
          clear q hr
          obtain ⟨F1, F2, F3⟩ := endsTwo (u := asc ds st sz lo) (k := k) (.inr (.inr (.inl HVk.out)))
          have E1 : Hid _ := F1
          have E2 : Hid _ := F2
          have E3 : Hid _ := F3
          clear F1 F2 F3
          by_cases hlim : limit < (cn : Int) + 2
          · go_wp2_with fail
            go_quiet (fail)
            go_wp2
            go_ret3
            refine ⟨?_, in_loop hb1 (bdN hW3 _)⟩
            rw [HSt.out, HSz.out, close_stop st sz HRun.out hkn E1.out E2.out E3.out (by omega)]
            exact ret3 (by first | rfl | omega | (simp only [Int.natCast_add, Int.natCast_mul]; omega) | (push_cast; rfl)) (by first | rfl | omega | (simp only [Int.natCast_add, Int.natCast_mul]; omega) | (push_cast; rfl)) (by first | rfl | omega | (simp only [Int.natCast_add, Int.natCast_mul]; omega) | (push_cast; rfl))
          · go_wp2_with fail
            go_roundw
            case rel => exact ⟨cn + 2, ln + 0, k + 0 + 1, by go_num, by go_num, by go_num, by omega, by omega, by omega, hW3, close_step HRun.out hkn E1.out E2.out E3.out (by omega)⟩
            case measure => simp [intOf]; omega
        · subst h
          clear q hr
          obtain ⟨F1, F2, F3⟩ := endsTwo (u := asc ds st sz lo) (k := k) (.inr (.inr (.inr HVk.out)))
          have E1 : Hid _ := F1
          have E2 : Hid _ := F2
          have E3 : Hid _ := F3
          clear F1 F2 F3
          by_cases hlim : limit < (cn : Int) + 2
          · go_wp2_with fail
            go_quiet (fail)
            go_wp2
            go_ret3
            refine ⟨?_, in_loop hb1 (bdN hW3 _)⟩
            rw [HSt.out, HSz.out, close_stop st sz HRun.out hkn E1.out E2.out E3.out (by omega)]
            exact ret3 (by first | rfl | omega | (simp only [Int.natCast_add, Int.natCast_mul]; omega) | (push_cast; rfl)) (by first | rfl | omega | (simp only [Int.natCast_add, Int.natCast_mul]; omega) | (push_cast; rfl)) (by first | rfl | omega | (simp only [Int.natCast_add, Int.natCast_mul]; omega) | (push_cast; rfl))
          · go_wp2_with fail
            go_roundw
            case rel => exact ⟨cn + 2, ln + 0, k + 0 + 1, by go_num, by go_num, by go_num, by omega, by omega, by omega, hW3, close_step HRun.out hkn E1.out E2.out E3.out (by omega)⟩
            case measure => simp [intOf]; omega
    · go_wp2_with fail
      refine (HL.out _).mono ?_
      rintro e w2 ⟨rfl, hb2⟩
      go_wp2_with fail
      go_ret3
      refine ⟨?_, in_loop hb1 (hW.trans (hb2.mono hW.size))⟩
      rw [← HRun.out, run_end _ _ _ _ _ _ _ (by omega)]
      rfl

/-- the empty book -/
theorem cv_empty (limit : Int) : cvTuple 0 1 (cv [] limit) = .tuple #[.int .i64 4, .int .i64 (-1), .int .i64 1] := rfl
set_option maxRecDepth 100000 in
set_option maxHeartbeats 1000000 in
/-- countValues, function 23, at an empty book, nil or not -/
theorem countValues_empty (a : Option Addr) (cap : Nat) (limit : Int) (w : World) :
    Calls Try.prog 23 #[.slice a 0 cap, .int .i64 limit] w fun e w' => e = .returned (cvTuple 0 1 (cv [] limit)) ∧ Below w.heap.size w w' := by
  rw [cv_empty]
  go_enter Try.func23, Try.ntmps23
  go_wp2_with fail
  refine (unitsOf_empty a cap w).mono ?_
  rintro e w1 ⟨rfl, hb1⟩
  go_wp2_with fail
  refine wp_loop_rounds 1 ?_
  rw [rounds_succ]
  go_wp2_with fail
  refine (len_any a 0 cap 0 1 0 (.inl rfl) (by omega) (by omega) _).mono ?_
  rintro e w2 ⟨rfl, hb2⟩
  rw [show ((uN 0 0 1 : Nat) : Int) = 0 from rfl]
  go_wp2_with fail
  go_ret3
  exact ⟨rfl, in_loop hb1 hb2⟩
/-- ZZCountValues, function 12, at a book -/
theorem zzCount_any (b len cap : Nat) (ds : List Int) (limit : Int) (w : World) (hB : Book w b len cap ds) :
    Calls Try.prog 12 #[.slice (some ⟨b, 0, none⟩) len cap, .int .i64 limit] w fun e w' => e = .returned (cvTuple (uSt ds) (uSz ds) (cv ds limit)) ∧ Below w.heap.size w w' := by
  have H : Hid _ := countValues_any b len cap ds limit w hB
  clear hB
  go_enter Try.func12, Try.ntmps12
  go_wp2_with fail
  refine Calls.mono H.out ?_
  rintro e w' ⟨rfl, hb⟩
  unfold cvTuple
  go_wp2
  go_ret3
  exact ⟨rfl, hb⟩
theorem zzCount_empty (a : Option Addr) (cap : Nat) (limit : Int) (w : World) :
    Calls Try.prog 12 #[.slice a 0 cap, .int .i64 limit] w fun e w' => e = .returned (cvTuple 0 1 (cv [] limit)) ∧ Below w.heap.size w w' := by
  have H : Hid _ := countValues_empty a cap limit w
  go_enter Try.func12, Try.ntmps12
  go_wp2_with fail
  refine Calls.mono H.out ?_
  rintro e w' ⟨rfl, hb⟩
  unfold cvTuple
  go_wp2
  go_ret3
  exact ⟨rfl, hb⟩
end Go.Proofs.Qxb6001236a.Walks
