import Derived.Test.Qxb6001236aWalkF
import Derived.Test.Qxb6001236aWalkG
import Derived.Test.Qxb6001236aPlainC
namespace Go.Proofs.Qxb6001236a.Walks
open Go.RowKit Go.Proofs.Qxb6001236a.Plain Go.Sort
set_option linter.unusedVariables false

set_option maxHeartbeats 400000 in
/-- ZZUnitsOf, function 17, at a book -/
theorem zzUnits_any (b len cap : Nat) (ds : List Int) (w : World) (hB : Book w b len cap ds) :
    Calls Try.prog 17 #[.slice (some ⟨b, 0, none⟩) len cap] w fun e w' => e = .returned (.tuple #[.int .i64 (uSt ds), .int .i64 (uSz ds), .int .i64 (uLo ds)]) ∧ Below w.heap.size w w' := by
  have H : Hid _ := unitsOf_any b len cap ds w hB
  clear hB
  go_enter Try.func17, Try.ntmps17
  go_wp2_with fail
  refine Calls.mono H.out ?_
  rintro e w1 ⟨rfl, hb⟩
  go_wp2_with fail
  go_quiet (fail)
  go_wp2
  go_ret3
  exact ⟨rfl, bdN (hb.alloc hb.size _) _⟩

theorem atOf_some {st sz i k : Nat} (h : st + i * sz = k) : atOf st sz (some i) = (k : Int) := by rw [← h]; rfl
/-- the book cut at m -/
theorem Book.cut {w : World} {b len cap : Nat} {ds : List Int} (h : Book w b len cap ds) (m : Nat) (hm : m ≤ len) : Book w b m cap (ds.take m) := by
  obtain ⟨⟨h1, h2, h3, h4⟩, h5, h6, h7⟩ := h
  refine ⟨⟨by rw [List.length_take]; omega, by omega, fun i hi => by rw [bt_take _ _ _ hi]; exact h3 i (by omega), fun i => ?_⟩, by omega, h6, h7⟩
  by_cases hi : i < m
  · rw [bt_take _ _ _ hi]; exact h4 i
  · have : bt (ds.take m) i = 0 := by unfold bt; rw [List.getD_eq_getElem?_getD, List.getElem?_eq_none (by rw [List.length_take]; omega)]; rfl
    rw [this]; omega

set_option maxRecDepth 100000 in
set_option maxHeartbeats 4000000 in
/-- the law at an empty book -/
theorem stops_E (a : Option Addr) (cap : Nat) (limit : Int) (w : World) (h4 : 4 ≤ limit) (hM : limit ≤ 9223372036854775807) :
    Calls Try.prog 4 #[.slice a 0 cap, .int .i64 limit] w fun e w' => e = .returned (.bool true) ∧ Below w.heap.size w w' := by
  go_enter Try.func4, Try.ntmps4
  go_wp2_with (go_at_call 16; go_in)
  refine (clone_empty a cap w).mono ?_
  rintro e w1 ⟨a1, rfl, hb1⟩
  go_wp2_with fail
  refine (zzCount_empty a1 0 limit w1).mono ?_
  rintro e w2 ⟨rfl, hb2⟩
  rw [cv_empty]
  go_wp2_with fail
  refine (zzCount_empty a1 0 9223372036854775807 w2).mono ?_
  rintro e w3 ⟨rfl, hb3⟩
  rw [cv_empty]
  have hfin : Below w.heap.size w w3 := hb1.trans ((hb2.mono hb1.size).trans (hb3.mono (Nat.le_trans hb1.size hb2.size)))
  go_wp2_with fail
  go_ret
  exact ⟨rfl, hfin⟩

set_option maxRecDepth 100000 in
set_option maxHeartbeats 4000000 in
/-- the law at a book that is not empty, where the count never passes the limit -/
theorem stops_R0 (b o len cap : Nat) (ds : List Int) (limit : Int) (w : World) (h4 : 4 ≤ limit) (hM : limit ≤ 9223372036854775807) (h0 : 0 < len) (hl : ds.length = len) (h2 : len ≤ 1048576) (hc : ∀ i, i < len → w.cell? ⟨b, o + i, none⟩ = some (.int .u8 (bt ds i))) (hr : ∀ i, 0 ≤ bt ds i ∧ bt ds i ≤ 255)
    (fc fl : Nat) (e1 : cv ds 9223372036854775807 = (fc, none, fl)) (e2 : cv ds limit = (fc, none, fl)) (r1 : (fc : Int) ≤ limit) (r2 : fc ≤ 4 + 2 * len) (r3 : fl ≤ 1 + len) :
    Calls Try.prog 4 #[.slice (some ⟨b, o, none⟩) len cap, .int .i64 limit] w fun e w' => e = .returned (.bool true) ∧ Below w.heap.size w w' := by
  have KA : Hid _ := clone_row b o len cap ds w h0 hl (by omega) hc hr
  have HE1 : Hid (cv ds 9223372036854775807 = (fc, none, fl)) := e1
  have HE2 : Hid (cv ds limit = (fc, none, fl)) := e2
  clear hc hr e1 e2
  go_enter Try.func4, Try.ntmps4
  go_wp2_with (go_at_call 16; go_in)
  refine Calls.mono KA.out ?_
  rintro e w1 ⟨B, rfl, hB, hge, hb1⟩
  have HB : Hid (Book w1 B len len ds) := hB
  clear hB KA
  go_wp2_with fail
  refine (zzCount_any B len len ds limit w1 HB.out).mono ?_
  rintro e w2 ⟨rfl, hb2⟩
  rw [HE2.out]
  unfold cvTuple
  go_wp2_with fail
  refine (zzCount_any B len len ds 9223372036854775807 w2 (HB.out.later hb2)).mono ?_
  rintro e w3 ⟨rfl, hb3⟩
  rw [HE1.out]
  unfold cvTuple
  have hfin : Below w.heap.size w w3 := hb1.trans ((hb2.mono hb1.size).trans (hb3.mono (Nat.le_trans hb1.size hb2.size)))
  clear hb1 hb2 hb3
  go_wp2_with fail
  go_ret
  exact ⟨rfl, hfin⟩

set_option maxRecDepth 100000 in
set_option maxHeartbeats 4000000 in
/-- the law at a book that is not empty, where the count passes the limit at unit i -/
theorem stops_R1 (b o len cap : Nat) (ds : List Int) (limit : Int) (w : World) (h4 : 4 ≤ limit) (hM : limit ≤ 9223372036854775807) (h0 : 0 < len) (hl : ds.length = len) (h2 : len ≤ 1048576) (hc : ∀ i, i < len → w.cell? ⟨b, o + i, none⟩ = some (.int .u8 (bt ds i))) (hr : ∀ i, 0 ≤ bt ds i ∧ bt ds i ≤ 255)
    (fc fl i c l st sz m : Nat) (e1 : cv ds 9223372036854775807 = (fc, none, fl)) (e2 : cv ds limit = (c, some i, l)) (r1 : limit < (c : Int)) (r1' : (c : Int) ≤ limit + 2) (r2 : fc ≤ 4 + 2 * len) (r3 : fl ≤ 1 + len) (r4 : c ≤ fc) (r5 : l ≤ fl)
    (hst : uSt ds = st) (hsz : uSz ds = sz) (hss : sz = 1 ∨ sz = 2) (hm : st + i * sz + sz = m) (hml : m ≤ len) (e3 : cv (ds.take m) limit = (c, some i, l)) (e4 : cv (ds.take m) 9223372036854775807 = (c, none, l)) (e5 : uSt (ds.take m) = st) (e6 : uSz (ds.take m) = sz) :
    Calls Try.prog 4 #[.slice (some ⟨b, o, none⟩) len cap, .int .i64 limit] w fun e w' => e = .returned (.bool true) ∧ Below w.heap.size w w' := by
  have KA : Hid _ := clone_row b o len cap ds w h0 hl (by omega) hc hr
  obtain ⟨at', hat⟩ : ∃ at' : Nat, at' = st + i * sz := ⟨_, rfl⟩
  have HAt : Hid (st + i * sz = at') := hat.symm
  have hm2 : at' + sz = m := by rw [hat]; exact hm
  subst hm2
  have HE1 : Hid (cv ds 9223372036854775807 = (fc, none, fl)) := e1
  have HE2 : Hid (cv ds limit = (c, some i, l)) := e2
  have HE3 : Hid (cv (ds.take (at' + sz)) limit = (c, some i, l)) := e3
  have HE4 : Hid (cv (ds.take (at' + sz)) 9223372036854775807 = (c, none, l)) := e4
  have HSt : Hid (uSt ds = st) := hst
  have HSz : Hid (uSz ds = sz) := hsz
  have HSt' : Hid (uSt (ds.take (at' + sz)) = st) := e5
  have HSz' : Hid (uSz (ds.take (at' + sz)) = sz) := e6
  have hat2 : st ≤ at' := by rw [hat]; exact Nat.le_add_right _ _
  have hat3 : ((at' : Int) - (st : Int)) % (sz : Int) = 0 := by
    rw [hat, Int.natCast_add, Int.natCast_mul, show (st : Int) + (i : Int) * (sz : Int) - (st : Int) = (i : Int) * (sz : Int) by omega]
    exact Int.mul_emod_left _ _
  have hbd : at' + sz ≤ len := hml
  clear hc hr e1 e2 e3 e4 e5 e6 hst hsz hat hm hml
  go_enter Try.func4, Try.ntmps4
  go_wp2_with (go_at_call 16; go_in)
  refine Calls.mono KA.out ?_
  rintro e w1 ⟨B, rfl, hB, hge, hb1⟩
  have HB : Hid (Book w1 B len len ds) := hB
  clear hB KA
  go_wp2_with fail
  refine (zzCount_any B len len ds limit w1 HB.out).mono ?_
  rintro e w2 ⟨rfl, hb2⟩
  rw [HE2.out, HSt.out, HSz.out]
  unfold cvTuple
  rw [atOf_some HAt.out]
  go_wp2_with fail
  refine (zzCount_any B len len ds 9223372036854775807 w2 (HB.out.later hb2)).mono ?_
  rintro e w3 ⟨rfl, hb3⟩
  rw [HE1.out]
  unfold cvTuple
  rcases hss with rfl | rfl
  all_goals
    go_wp2_with fail
    refine (zzUnits_any B len len ds w3 ((HB.out.later hb2).later hb3)).mono ?_
    rintro e w4 ⟨rfl, hb4⟩
    rw [HSt.out, HSz.out]
    have hB4 := (((HB.out.later hb2).later hb3).later hb4).cut _ hbd
    have HB4 : Hid _ := hB4
    clear hB4
    go_wp2_with fail
    refine (zzCount_any B _ len _ limit w4 HB4.out).mono ?_
    rintro e w5 ⟨rfl, hb5⟩
    rw [HE3.out, HSt'.out, HSz'.out]
    unfold cvTuple
    rw [atOf_some HAt.out]
    go_wp2_with fail
    refine (zzCount_any B _ len _ 9223372036854775807 w5 (Book.later HB4.out hb5)).mono ?_
    rintro e w6 ⟨rfl, hb6⟩
    rw [HE4.out]
    unfold cvTuple
    have hfin : Below w.heap.size w w6 := hb1.trans ((hb2.mono hb1.size).trans ((hb3.mono (Nat.le_trans hb1.size hb2.size)).trans ((hb4.mono (Nat.le_trans (Nat.le_trans hb1.size hb2.size) hb3.size)).trans ((hb5.mono (Nat.le_trans (Nat.le_trans (Nat.le_trans hb1.size hb2.size) hb3.size) hb4.size)).trans (hb6.mono (Nat.le_trans (Nat.le_trans (Nat.le_trans (Nat.le_trans hb1.size hb2.size) hb3.size) hb4.size) hb5.size))))))
    clear hb1 hb2 hb3 hb4 hb5 hb6
    go_wp2_with fail
    go_ret
    exact ⟨rfl, hfin⟩
end Go.Proofs.Qxb6001236a.Walks
