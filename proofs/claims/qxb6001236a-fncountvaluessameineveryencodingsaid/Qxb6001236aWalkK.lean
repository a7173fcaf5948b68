import Derived.Test.Qxb6001236aWalkJ
namespace Go.Proofs.Qxb6001236a.WalksJ
open Go.RowKit Go.Proofs.Qxb6001236a.Plain Go.Proofs.Qxb6001236a.Walks Go.Sort
set_option linter.unusedVariables false

/-- what countValues says of an ASCII book, plain and encoded -/
structure Counted (A : List Int) (limit : Int) (c l : Nat) (o : Option Nat) : Prop where
  p0 : cvTuple (uSt A) (uSz A) (cv A limit) = .tuple #[.int .i64 c, .int .i64 (atOf 0 1 o), .int .i64 l]
  p1 : cvTuple (uSt (enc1 A)) (uSz (enc1 A)) (cv (enc1 A) limit) = .tuple #[.int .i64 c, .int .i64 (atOf 2 2 o), .int .i64 l]
  p2 : cvTuple (uSt (enc2 A)) (uSz (enc2 A)) (cv (enc2 A) limit) = .tuple #[.int .i64 c, .int .i64 (atOf 2 2 o), .int .i64 l]
  p3 : cvTuple (uSt (enc3 A)) (uSz (enc3 A)) (cv (enc3 A) limit) = .tuple #[.int .i64 c, .int .i64 (atOf 3 1 o), .int .i64 l]
theorem counted (A : List Int) (limit : Int) (h : Ascii A) : ∃ c l o, Counted A limit c l o ∧ c ≤ 4 + 2 * A.length ∧ l ≤ 1 + A.length ∧ ∀ j, o = some j → j ≤ A.length := by
  have e := (same0 A h).2
  obtain ⟨s1, s2, _⟩ := plain_open A (ascii_open A h)
  obtain ⟨a1, a2, a3⟩ := same1 A h limit
  obtain ⟨b1, b2, b3⟩ := same2 A h limit
  obtain ⟨c1, c2, c3⟩ := same3 A h limit
  have hb := cv_bounds A limit (uLen A) 0 4 1
  refine ⟨(cv A limit).1, (cv A limit).2.2, (cv A limit).2.1, ⟨?_, ?_, ?_, ?_⟩, ?_, ?_, ?_⟩
  · rw [s1, s2]; rfl
  · rw [a1, a2, a3]; rfl
  · rw [b1, b2, b3]; rfl
  · rw [c1, c2, c3]; rfl
  · rw [← e]; exact hb.1
  · rw [← e]; exact hb.2.1
  · intro j hj; rw [← e]; exact hb.2.2 j hj

set_option maxRecDepth 100000 in
set_option maxHeartbeats 4000000 in
/-- the law, at an empty book -/
theorem same_E (a : Option Addr) (cap : Nat) (limit : Int) (w : World)  :
    Calls Try.prog 3 #[.slice a 0 cap, .int .i64 limit] w fun e w' => e = .returned (.bool true) ∧ Below w.heap.size w w' := by
  go_enter Try.func3, Try.ntmps3
  go_wp2_with (go_at_call 9; go_in)
  refine (clone_empty a cap w).mono ?_
  rintro e w1 ⟨a1, rfl, hb1⟩
  go_wp2_with fail
  refine (ascii_empty a1 0 w1).mono ?_
  rintro e w2 ⟨A, hA, BA, rfl, hBA, hge2, hb2⟩
  obtain ⟨c, l, oo, hC, r1, r2, r3⟩ := counted A limit hA
  have hAl : A.length = 0 := hBA.1.1
  rw [hAl] at r1 r2 r3
  have HA : Hid (Ascii A) := hA
  have HC : Hid (Counted A limit c l oo) := hC
  have HBA : Hid (Book w2 BA 0 0 A) := hBA
  have hbw : Below w.heap.size w w2 := hb1.trans (hb2.mono hb1.size)
  clear hA hC hBA hb1 hb2 hAl hge2
  go_wp2_with fail
  refine (zzCount_any BA 0 0 A limit w2 HBA.out).mono ?_
  rintro e w3 ⟨rfl, hb3⟩
  rw [HC.out.p0]
  have HB3 : Hid (Book w3 BA 0 0 A) := HBA.out.later hb3
  have hbw3 : Below w.heap.size w w3 := hbw.trans (hb3.mono hbw.size)
  clear hb3 hbw HBA
  cases oo with
  | none =>
    clear r3
    rw [show atOf 0 1 none = -1 from rfl]
    go_wp2_with fail
    refine wp_loop_rounds 4 ?_
    rw [rounds_succ]
    go_wp2_with fail
    refine (encode1 BA 0 A w3 HB3.out (by omega) HA.out).mono ?_
    rintro e x1 ⟨J1, rfl, hJ1, hx1⟩
    have HJ1 : Hid _ := hJ1
    clear hJ1
    go_wp2_with fail
    refine (zzCount_any J1 _ _ (enc1 A) limit x1 HJ1.out).mono ?_
    rintro e w4 ⟨rfl, hb4⟩
    rw [HC.out.p1]
    rw [show atOf 2 2 none = -1 from rfl]
    have HB4 : Hid (Book w4 BA 0 0 A) := (Book.later HB3.out hx1).later hb4
    have hbw4 : Below w.heap.size w w4 := hbw3.trans ((hx1.mono hbw3.size).trans (hb4.mono (Nat.le_trans hbw3.size hx1.size)))
    clear hx1 hb4 hbw3 HB3 HJ1
    go_wp2_with (first | (go_at_call 14; go_in) | (go_at_call 15; go_in))
    rw [rounds_succ]
    go_wp2_with fail
    refine (encode2 BA 0 A w4 HB4.out (by omega) HA.out).mono ?_
    rintro e x2 ⟨J2, rfl, hJ2, hx2⟩
    have HJ2 : Hid _ := hJ2
    clear hJ2
    go_wp2_with fail
    refine (zzCount_any J2 _ _ (enc2 A) limit x2 HJ2.out).mono ?_
    rintro e w5 ⟨rfl, hb5⟩
    rw [HC.out.p2]
    rw [show atOf 2 2 none = -1 from rfl]
    have HB5 : Hid (Book w5 BA 0 0 A) := (Book.later HB4.out hx2).later hb5
    have hbw5 : Below w.heap.size w w5 := hbw4.trans ((hx2.mono hbw4.size).trans (hb5.mono (Nat.le_trans hbw4.size hx2.size)))
    clear hx2 hb5 hbw4 HB4 HJ2
    go_wp2_with (first | (go_at_call 14; go_in) | (go_at_call 15; go_in))
    rw [rounds_succ]
    go_wp2_with fail
    refine (encode3 BA 0 A w5 HB5.out (by omega) HA.out).mono ?_
    rintro e x3 ⟨J3, rfl, hJ3, hx3⟩
    have HJ3 : Hid _ := hJ3
    clear hJ3
    go_wp2_with fail
    refine (zzCount_any J3 _ _ (enc3 A) limit x3 HJ3.out).mono ?_
    rintro e w6 ⟨rfl, hb6⟩
    rw [HC.out.p3]
    rw [show atOf 3 1 none = -1 from rfl]
    have HB6 : Hid (Book w6 BA 0 0 A) := (Book.later HB5.out hx3).later hb6
    have hbw6 : Below w.heap.size w w6 := hbw5.trans ((hx3.mono hbw5.size).trans (hb6.mono (Nat.le_trans hbw5.size hx3.size)))
    clear hx3 hb6 hbw5 HB5 HJ3
    go_wp2_with (first | (go_at_call 14; go_in) | (go_at_call 15; go_in))
    rw [rounds_succ]
    go_wp2_with fail
    go_ret
    exact ⟨rfl, hbw6⟩
  | some j =>
    have r4 := r3 j rfl
    clear r3
    rw [show atOf 0 1 (some j) = ((0 + j * 1 : Nat) : Int) from rfl, show ((0 + j * 1 : Nat) : Int) = (j : Int) from by omega]
    go_wp2_with fail
    refine wp_loop_rounds 4 ?_
    rw [rounds_succ]
    go_wp2_with fail
    refine (encode1 BA 0 A w3 HB3.out (by omega) HA.out).mono ?_
    rintro e x1 ⟨J1, rfl, hJ1, hx1⟩
    have HJ1 : Hid _ := hJ1
    clear hJ1
    go_wp2_with fail
    refine (zzCount_any J1 _ _ (enc1 A) limit x1 HJ1.out).mono ?_
    rintro e w4 ⟨rfl, hb4⟩
    rw [HC.out.p1]
    rw [show atOf 2 2 (some j) = ((2 + j * 2 : Nat) : Int) from rfl, show ((2 + j * 2 : Nat) : Int) = 2 + (j : Int) * 2 from by omega]
    have HB4 : Hid (Book w4 BA 0 0 A) := (Book.later HB3.out hx1).later hb4
    have hbw4 : Below w.heap.size w w4 := hbw3.trans ((hx1.mono hbw3.size).trans (hb4.mono (Nat.le_trans hbw3.size hx1.size)))
    clear hx1 hb4 hbw3 HB3 HJ1
    go_wp2_with (first | (go_at_call 14; go_in) | (go_at_call 15; go_in))
    rw [rounds_succ]
    go_wp2_with fail
    refine (encode2 BA 0 A w4 HB4.out (by omega) HA.out).mono ?_
    rintro e x2 ⟨J2, rfl, hJ2, hx2⟩
    have HJ2 : Hid _ := hJ2
    clear hJ2
    go_wp2_with fail
    refine (zzCount_any J2 _ _ (enc2 A) limit x2 HJ2.out).mono ?_
    rintro e w5 ⟨rfl, hb5⟩
    rw [HC.out.p2]
    rw [show atOf 2 2 (some j) = ((2 + j * 2 : Nat) : Int) from rfl, show ((2 + j * 2 : Nat) : Int) = 2 + (j : Int) * 2 from by omega]
    have HB5 : Hid (Book w5 BA 0 0 A) := (Book.later HB4.out hx2).later hb5
    have hbw5 : Below w.heap.size w w5 := hbw4.trans ((hx2.mono hbw4.size).trans (hb5.mono (Nat.le_trans hbw4.size hx2.size)))
    clear hx2 hb5 hbw4 HB4 HJ2
    go_wp2_with (first | (go_at_call 14; go_in) | (go_at_call 15; go_in))
    rw [rounds_succ]
    go_wp2_with fail
    refine (encode3 BA 0 A w5 HB5.out (by omega) HA.out).mono ?_
    rintro e x3 ⟨J3, rfl, hJ3, hx3⟩
    have HJ3 : Hid _ := hJ3
    clear hJ3
    go_wp2_with fail
    refine (zzCount_any J3 _ _ (enc3 A) limit x3 HJ3.out).mono ?_
    rintro e w6 ⟨rfl, hb6⟩
    rw [HC.out.p3]
    rw [show atOf 3 1 (some j) = ((3 + j * 1 : Nat) : Int) from rfl, show ((3 + j * 1 : Nat) : Int) = 3 + (j : Int) from by omega]
    have HB6 : Hid (Book w6 BA 0 0 A) := (Book.later HB5.out hx3).later hb6
    have hbw6 : Below w.heap.size w w6 := hbw5.trans ((hx3.mono hbw5.size).trans (hb6.mono (Nat.le_trans hbw5.size hx3.size)))
    clear hx3 hb6 hbw5 HB5 HJ3
    go_wp2_with (first | (go_at_call 14; go_in) | (go_at_call 15; go_in))
    rw [rounds_succ]
    go_wp2_with fail
    go_ret
    exact ⟨rfl, hbw6⟩

set_option maxRecDepth 100000 in
set_option maxHeartbeats 4000000 in
/-- the law, at a book that is not empty -/
theorem same_R (b o len cap : Nat) (ds : List Int) (limit : Int) (w : World) (h0 : 0 < len) (hl : ds.length = len) (h2 : len ≤ 1048576) (hc : ∀ i, i < len → w.cell? ⟨b, o + i, none⟩ = some (.int .u8 (bt ds i))) (hr : ∀ i, 0 ≤ bt ds i ∧ bt ds i ≤ 255) :
    Calls Try.prog 3 #[.slice (some ⟨b, o, none⟩) len cap, .int .i64 limit] w fun e w' => e = .returned (.bool true) ∧ Below w.heap.size w w' := by
  have KA : Hid _ := clone_row b o len cap ds w h0 hl (by omega) hc hr
  clear hc hr
  go_enter Try.func3, Try.ntmps3
  go_wp2_with (go_at_call 9; go_in)
  refine Calls.mono KA.out ?_
  rintro e w1 ⟨B, rfl, hB, hge, hb1⟩
  have HB : Hid (Book w1 B len len ds) := hB
  clear hB KA
  go_wp2_with fail
  refine (ascii_row B len len ds w1 HB.out (by omega)).mono ?_
  rintro e w2 ⟨A, hA, BA, rfl, hBA, hge2, hb2⟩
  obtain ⟨c, l, oo, hC, r1, r2, r3⟩ := counted A limit hA
  have hAl : A.length = len := hBA.1.1
  rw [hAl] at r1 r2 r3
  have HA : Hid (Ascii A) := hA
  have HC : Hid (Counted A limit c l oo) := hC
  have HBA : Hid (Book w2 BA len len A) := hBA
  have hbw : Below w.heap.size w w2 := hb1.trans (hb2.mono hb1.size)
  clear hA hC hBA hb1 hb2 hAl hge2
  go_wp2_with fail
  refine (zzCount_any BA len len A limit w2 HBA.out).mono ?_
  rintro e w3 ⟨rfl, hb3⟩
  rw [HC.out.p0]
  have HB3 : Hid (Book w3 BA len len A) := HBA.out.later hb3
  have hbw3 : Below w.heap.size w w3 := hbw.trans (hb3.mono hbw.size)
  clear hb3 hbw HBA
  cases oo with
  | none =>
    clear r3
    rw [show atOf 0 1 none = -1 from rfl]
    go_wp2_with fail
    refine wp_loop_rounds 4 ?_
    rw [rounds_succ]
    go_wp2_with fail
    refine (encode1 BA len A w3 HB3.out (by omega) HA.out).mono ?_
    rintro e x1 ⟨J1, rfl, hJ1, hx1⟩
    have HJ1 : Hid _ := hJ1
    clear hJ1
    go_wp2_with fail
    refine (zzCount_any J1 _ _ (enc1 A) limit x1 HJ1.out).mono ?_
    rintro e w4 ⟨rfl, hb4⟩
    rw [HC.out.p1]
    rw [show atOf 2 2 none = -1 from rfl]
    have HB4 : Hid (Book w4 BA len len A) := (Book.later HB3.out hx1).later hb4
    have hbw4 : Below w.heap.size w w4 := hbw3.trans ((hx1.mono hbw3.size).trans (hb4.mono (Nat.le_trans hbw3.size hx1.size)))
    clear hx1 hb4 hbw3 HB3 HJ1
    go_wp2_with (first | (go_at_call 14; go_in) | (go_at_call 15; go_in))
    rw [rounds_succ]
    go_wp2_with fail
    refine (encode2 BA len A w4 HB4.out (by omega) HA.out).mono ?_
    rintro e x2 ⟨J2, rfl, hJ2, hx2⟩
    have HJ2 : Hid _ := hJ2
    clear hJ2
    go_wp2_with fail
    refine (zzCount_any J2 _ _ (enc2 A) limit x2 HJ2.out).mono ?_
    rintro e w5 ⟨rfl, hb5⟩
    rw [HC.out.p2]
    rw [show atOf 2 2 none = -1 from rfl]
    have HB5 : Hid (Book w5 BA len len A) := (Book.later HB4.out hx2).later hb5
    have hbw5 : Below w.heap.size w w5 := hbw4.trans ((hx2.mono hbw4.size).trans (hb5.mono (Nat.le_trans hbw4.size hx2.size)))
    clear hx2 hb5 hbw4 HB4 HJ2
    go_wp2_with (first | (go_at_call 14; go_in) | (go_at_call 15; go_in))
    rw [rounds_succ]
    go_wp2_with fail
    refine (encode3 BA len A w5 HB5.out (by omega) HA.out).mono ?_
    rintro e x3 ⟨J3, rfl, hJ3, hx3⟩
    have HJ3 : Hid _ := hJ3
    clear hJ3
    go_wp2_with fail
    refine (zzCount_any J3 _ _ (enc3 A) limit x3 HJ3.out).mono ?_
    rintro e w6 ⟨rfl, hb6⟩
    rw [HC.out.p3]
    rw [show atOf 3 1 none = -1 from rfl]
    have HB6 : Hid (Book w6 BA len len A) := (Book.later HB5.out hx3).later hb6
    have hbw6 : Below w.heap.size w w6 := hbw5.trans ((hx3.mono hbw5.size).trans (hb6.mono (Nat.le_trans hbw5.size hx3.size)))
    clear hx3 hb6 hbw5 HB5 HJ3
    go_wp2_with (first | (go_at_call 14; go_in) | (go_at_call 15; go_in))
    rw [rounds_succ]
    go_wp2_with fail
    go_ret
    exact ⟨rfl, hbw6⟩
  | some j =>
    have r4 := r3 j rfl
    clear r3
    rw [show atOf 0 1 (some j) = ((0 + j * 1 : Nat) : Int) from rfl, show ((0 + j * 1 : Nat) : Int) = (j : Int) from by omega]
    go_wp2_with fail
    refine wp_loop_rounds 4 ?_
    rw [rounds_succ]
    go_wp2_with fail
    refine (encode1 BA len A w3 HB3.out (by omega) HA.out).mono ?_
    rintro e x1 ⟨J1, rfl, hJ1, hx1⟩
    have HJ1 : Hid _ := hJ1
    clear hJ1
    go_wp2_with fail
    refine (zzCount_any J1 _ _ (enc1 A) limit x1 HJ1.out).mono ?_
    rintro e w4 ⟨rfl, hb4⟩
    rw [HC.out.p1]
    rw [show atOf 2 2 (some j) = ((2 + j * 2 : Nat) : Int) from rfl, show ((2 + j * 2 : Nat) : Int) = 2 + (j : Int) * 2 from by omega]
    have HB4 : Hid (Book w4 BA len len A) := (Book.later HB3.out hx1).later hb4
    have hbw4 : Below w.heap.size w w4 := hbw3.trans ((hx1.mono hbw3.size).trans (hb4.mono (Nat.le_trans hbw3.size hx1.size)))
    clear hx1 hb4 hbw3 HB3 HJ1
    go_wp2_with (first | (go_at_call 14; go_in) | (go_at_call 15; go_in))
    rw [rounds_succ]
    go_wp2_with fail
    refine (encode2 BA len A w4 HB4.out (by omega) HA.out).mono ?_
    rintro e x2 ⟨J2, rfl, hJ2, hx2⟩
    have HJ2 : Hid _ := hJ2
    clear hJ2
    go_wp2_with fail
    refine (zzCount_any J2 _ _ (enc2 A) limit x2 HJ2.out).mono ?_
    rintro e w5 ⟨rfl, hb5⟩
    rw [HC.out.p2]
    rw [show atOf 2 2 (some j) = ((2 + j * 2 : Nat) : Int) from rfl, show ((2 + j * 2 : Nat) : Int) = 2 + (j : Int) * 2 from by omega]
    have HB5 : Hid (Book w5 BA len len A) := (Book.later HB4.out hx2).later hb5
    have hbw5 : Below w.heap.size w w5 := hbw4.trans ((hx2.mono hbw4.size).trans (hb5.mono (Nat.le_trans hbw4.size hx2.size)))
    clear hx2 hb5 hbw4 HB4 HJ2
    go_wp2_with (first | (go_at_call 14; go_in) | (go_at_call 15; go_in))
    rw [rounds_succ]
    go_wp2_with fail
    refine (encode3 BA len A w5 HB5.out (by omega) HA.out).mono ?_
    rintro e x3 ⟨J3, rfl, hJ3, hx3⟩
    have HJ3 : Hid _ := hJ3
    clear hJ3
    go_wp2_with fail
    refine (zzCount_any J3 _ _ (enc3 A) limit x3 HJ3.out).mono ?_
    rintro e w6 ⟨rfl, hb6⟩
    rw [HC.out.p3]
    rw [show atOf 3 1 (some j) = ((3 + j * 1 : Nat) : Int) from rfl, show ((3 + j * 1 : Nat) : Int) = 3 + (j : Int) from by omega]
    have HB6 : Hid (Book w6 BA len len A) := (Book.later HB5.out hx3).later hb6
    have hbw6 : Below w.heap.size w w6 := hbw5.trans ((hx3.mono hbw5.size).trans (hb6.mono (Nat.le_trans hbw5.size hx3.size)))
    clear hx3 hb6 hbw5 HB5 HJ3
    go_wp2_with (first | (go_at_call 14; go_in) | (go_at_call 15; go_in))
    rw [rounds_succ]
    go_wp2_with fail
    go_ret
    exact ⟨rfl, hbw6⟩

end Go.Proofs.Qxb6001236a.WalksJ
