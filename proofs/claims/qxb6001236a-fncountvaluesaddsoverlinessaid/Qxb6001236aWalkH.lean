import Derived.Test.Qxb6001236aWalkF
import Derived.Test.Qxb6001236aWalkG
import Derived.Test.Qxb6001236aPlainB
import Derived.WalkSpells
import Derived.OwnWalk
namespace Go.Proofs.Qxb6001236a.Walks
open Go.RowKit Go.Proofs.Qxb6001236a.Plain Go.Sort
set_option linter.unusedVariables false

/-! ### a row of bytes that is appended to within its room -/
/-- the call's own row: at the head of block J, the bytes xs, room for cap -/
def Own (w : World) (J : Nat) (xs : List Int) (cap : Nat) : Prop := w.ownsRow J 5 1 (.slice (some ⟨J, 0, none⟩) xs.length cap) xs.length (xs.map (Value.int .u8))

theorem own_new (w : World) (cap : Nat) (hc : cap ≤ 4194304) : Own (w.alloc (.cells (row (List.replicate cap 0)) 5)) w.heap.size [] cap := by
  refine ⟨rfl, .inr ⟨w.heap.size, cap, row (List.replicate cap 0), rfl, Nat.le_refl _, heap_alloc_new w _, by simp, by unfold maxLen; omega, by simp [row_size], by simp⟩⟩
theorem own_book {w : World} {J cap : Nat} {xs : List Int} (h : Own w J xs cap) (hc : cap ≤ 4194304) (hx : xs.length ≤ cap) (hr : ∀ i, 0 ≤ bt xs i ∧ bt xs i ≤ 255) (hJ : J < w.heap.size) : Book w J xs.length cap xs := by
  refine ⟨⟨rfl, by omega, fun i hi => ?_, hr⟩, hx, by unfold maxLen; omega, hJ⟩
  rw [World.ownsRow.cellAt h i (by omega)]
  simp [bt, hi]
/-- behind an append of one byte -/
theorem own_out {w : World} {J cap n : Nat} {xs : List Int} (h : Own w J xs cap) (hn : xs.length = n) : w.ownsRow J 5 1 (.slice (some ⟨J, 0, none⟩) n cap) n (xs.map (Value.int .u8)) := by subst hn; exact h
theorem own_step {w' : World} {J cap : Nat} {xs : List Int} {x : Int} {n : Nat} (hn : xs.length = n) (h : w'.ownsRow J 5 1 (.slice (some ⟨J, 0, none⟩) (n + 1) cap) (n + 1) (xs.map (Value.int .u8) ++ [.int .u8 x])) : Own w' J (xs ++ [x]) cap := by
  subst hn
  unfold Own
  rw [List.length_append, List.map_append]
  exact h
theorem below_step {B J : Nat} {a w w' : World} {o : Obj} (h : Below B a w) (hB : B ≤ w.heap.size) (hJ : B ≤ J) (hg : (w.alloc o).grownBy w' (some J)) : Below B a w' :=
  (h.alloc hB o).grown hg (by simp; omega) (fun k hk => by cases hk; exact hJ)
theorem take_succ_bt (A : List Int) (k : Nat) (h : k < A.length) : A.take k ++ [bt A k] = A.take (k + 1) := by
  rw [List.take_succ_eq_append_getElem h]
  simp [bt, h]

theorem join_range (A Bs : List Int) (hA : ∀ i, 0 ≤ bt A i ∧ bt A i ≤ 255) (hB : ∀ i, 0 ≤ bt Bs i ∧ bt Bs i ≤ 255) : ∀ i, 0 ≤ bt (A ++ 10 :: Bs) i ∧ bt (A ++ 10 :: Bs) i ≤ 255 := by
  intro i
  by_cases h : i < A.length
  · rw [bt_left _ _ _ h]; exact hA i
  · obtain ⟨m, rfl⟩ : ∃ m, i = A.length + m := ⟨i - A.length, by omega⟩
    rw [bt_right]
    cases m with
    | zero => show 0 ≤ (10 : Int) ∧ (10 : Int) ≤ 255; omega
    | succ m => rw [bt_cons]; exact hB m

theorem own_lt {w : World} {J cap : Nat} {xs : List Int} (h : Own w J xs cap) : J < w.heap.size := by
  rcases h.2 with ⟨h, _⟩ | ⟨g, c', cur, h, _, hg, _⟩
  · simp at h
  · simp only [Value.slice.injEq, Option.some.injEq, Addr.mk.injEq, and_true, true_and] at h
    obtain ⟨rfl, _⟩ := h
    rcases Nat.lt_or_ge J w.heap.size with h' | h'
    · exact h'
    · rw [Array.getElem?_eq_none h'] at hg; cases hg
theorem cell_one_new' (w : World) (o : Obj) (x : Value) (t : TypeId) : ∀ j u, [x][j]? = some u → ((w.alloc o).alloc (.cells #[x] t)).cell? ((⟨w.heap.size + 1, 0, none⟩ : Addr).add j) = some u := by
  have := cell_one_new (w.alloc o) x t
  rw [show (w.alloc o).heap.size = w.heap.size + 1 by simp] at this
  exact this

set_option maxRecDepth 100000 in
set_option maxHeartbeats 4000000 in
theorem adds_RR (bA oA lA cA : Nat) (A : List Int) (bB oB lB cB : Nat) (Bs : List Int) (w : World) (hA0 : 0 < lA) (hAl : A.length = lA) (hA2 : lA ≤ 524288) (hAc : ∀ i, i < lA → w.cell? ⟨bA, oA + i, none⟩ = some (.int .u8 (bt A i))) (hAr : ∀ i, 0 ≤ bt A i ∧ bt A i ≤ 255) (hB0 : 0 < lB) (hBl : Bs.length = lB) (hB2 : lB ≤ 524288) (hBc : ∀ i, i < lB → w.cell? ⟨bB, oB + i, none⟩ = some (.int .u8 (bt Bs i))) (hBr : ∀ i, 0 ≤ bt Bs i ∧ bt Bs i ≤ 255) (g1 : bt A 0 < 128) (g3 : ¬ bt A (lA - 1) = 13) (g2 : bt Bs 0 < 128) :
    Calls Try.prog 5 #[.slice (some ⟨bA, oA, none⟩) lA cA, .slice (some ⟨bB, oB, none⟩) lB cB] w fun e w' => e = .returned (.bool true) ∧ Below w.heap.size w w' := by
  obtain ⟨i0, hi, hz0, hz1, hz2⟩ := info_parts info5
  have hbA : bA < w.heap.size := block_lt_of_cell (hAc 0 hA0)
  have cA0 := hAc 0 hA0
  have cA1 := hAc (lA - 1) (by omega)
  rw [Nat.add_zero] at cA0
  have KA : Hid _ := fun w1 (hb : Below w.heap.size w w1) => clone_row bA oA lA cA A w1 hA0 hAl (by omega) (fun i hi => by rw [hb.cell hbA]; exact hAc i hi) hAr
  have g3' : (bt A (lA - 1) == 13) = false := beq_eq_false_iff_ne.2 g3
  have GA : Hid (bt A 0 < 128 ∧ ¬ bt A (lA - 1) = 13) := ⟨g1, g3⟩
  have HAr : Hid (∀ i, 0 ≤ bt A i ∧ bt A i ≤ 255) := hAr
  have hbB : bB < w.heap.size := block_lt_of_cell (hBc 0 hB0)
  have cB0 := hBc 0 hB0
  rw [Nat.add_zero] at cB0
  have KB : Hid _ := fun w1 (hb : Below w.heap.size w w1) => clone_row bB oB lB cB Bs w1 hB0 hBl (by omega) (fun i hi => by rw [hb.cell hbB]; exact hBc i hi) hBr
  have GB : Hid (bt Bs 0 < 128) := g2
  have HBr : Hid (∀ i, 0 ≤ bt Bs i ∧ bt Bs i ≤ 255) := hBr
  clear hAc hAr g3 hBc hBr
  go_enter Try.func5, Try.ntmps5
  go_wp2_with (go_at_call 18; go_in)
  refine (KA.out w (Below.refl _ _)).mono ?_
  rintro e w1 ⟨BA, rfl, hBA, hge1, hb1⟩
  clear cA0 cA1 cB0
  go_wp2_with fail
  refine (KB.out w1 hb1).mono ?_
  rintro e w2 ⟨BB, rfl, hBB, hge2, hb2⟩
  have HBB : Hid (Book w2 BB lB lB Bs) := hBB
  have hBBw : BB < w2.heap.size := hBB.2.2.2
  clear hBB KB hge2
  have hBA2 := hBA.later hb2
  have HBA : Hid (Book w2 BA lA lA A) := hBA2
  have hBAw : BA < w2.heap.size := hBA2.2.2.2
  clear hBA hBA2 KA hge1
  have hbw : Below w.heap.size w w2 := hb1.trans (hb2.mono hb1.size)
  clear hb1 hb2
  have hmk : (Instr.makeSlice 22 (.int .i64 0) (.int .i64 ((lA : Int) + 1 + (lB : Int)))).run Try.prog w2 = .ok (.slice (some ⟨w2.heap.size, 0, none⟩) 0 (lA + 1 + lB)) (w2.alloc (.cells (row (List.replicate (lA + 1 + lB) 0)) 5)) := make_row 0 (lA + 1 + lB) (by omega) (by omega) w2
  have own0 := own_new w2 (lA + 1 + lB) (by omega)
  have bel0 : Below w2.heap.size w2 (w2.alloc (.cells (row (List.replicate (lA + 1 + lB) 0)) 5)) := (Below.refl _ _).alloc (Nat.le_refl _) _
  generalize hR : row (List.replicate (lA + 1 + lB) 0) = RR at hmk own0 bel0
  clear hR
  go_wp2_with fail
  clear hmk
  go_loopw [5, 6] (fun j i wr => ∃ k : Nat, j = .slice (some ⟨w2.heap.size, 0, none⟩) k (lA + 1 + lB) ∧ i = .int .i64 k ∧ k ≤ lA ∧ Own wr w2.heap.size (A.take k) (lA + 1 + lB) ∧ Below w2.heap.size w2 wr) (fun _ i _ => lA - (intOf i).toNat)
  case atStart => exact ⟨0, rfl, rfl, by omega, own0, bel0⟩
  case round =>
    obtain ⟨k, rfl, rfl, hk, hown, hbel⟩ := hrel
    clear own0 bel0
    by_cases hlt : k < lA
    · have hc1 : wr.cell? ⟨BA, k, none⟩ = some (.int .u8 (bt A k)) := by rw [hbel.cell hBAw]; exact HBA.out.1.2.2.1 k hlt
      have hlk : (A.take k).length = k := by simp; omega
      have ho := own_out hown hlk
      clear hown
      go_wp2_with (at_builtin; refine wpList_append_fits _ rfl (.tmp 74) (.tmp 79) 22 rfl w2.heap.size 5 i0 1 Try.underlying22 hi hz1 w2.heap.size k (lA + 1 + lB) _ rfl (ho.alloc _) ⟨wr.heap.size, 0, none⟩ 1 1 [.int .u8 (bt A k)] rfl rfl (cell_one_new _ _ _) (ints_oneCell .u8 [(bt A k)]) (by omega) ?_; intro w3 hownw3 hgroww3)
      have R : Hid (Own w3 w2.heap.size (A.take (k + 1)) (lA + 1 + lB) ∧ Below w2.heap.size w2 w3) := by
        refine ⟨?_, below_step hbel hbel.size (Nat.le_refl _) hgroww3⟩
        rw [← take_succ_bt A k (by omega)]
        exact own_step hlk hownw3
      clear ho hownw3 hgroww3
      go_roundw
      case rel => exact ⟨k + 1, rfl, by go_num, by omega, R.out.1, R.out.2⟩
      case measure => simp [intOf]; omega
    · have HK : Hid (A.take k = A) := by show A.take k = A; exact List.take_of_length_le (by omega)
      have hlk : (A.take k).length = k := by simp; omega
      have ho := own_out hown hlk
      have hkl : k ≤ lA ∧ lA ≤ k := by omega
      clear hown
      go_wp2_with (at_builtin; refine wpList_append_fits _ rfl (.tmp 81) (.tmp 82) 22 rfl w2.heap.size 5 i0 1 Try.underlying22 hi hz1 w2.heap.size k (lA + 1 + lB) _ rfl (ho.alloc _) ⟨wr.heap.size, 0, none⟩ 1 1 [.int .u8 10] rfl rfl (cell_one_new _ _ _) (ints_oneCell .u8 [10]) (by omega) ?_; intro w3 hownw3 hgroww3)
      have own0 : Own w3 w2.heap.size (A ++ [10]) (lA + 1 + lB) := by have := own_step hlk hownw3; rw [HK.out] at this; exact this
      have bel0 : Below w2.heap.size w2 w3 := below_step hbel hbel.size (Nat.le_refl _) hgroww3
      clear ho hownw3 hgroww3 hbel HK hlk
      go_loopw [5, 7] (fun j i wr => ∃ m : Nat, j = .slice (some ⟨w2.heap.size, 0, none⟩) (k + 1 + m) (lA + 1 + lB) ∧ i = .int .i64 m ∧ m ≤ lB ∧ Own wr w2.heap.size (A ++ 10 :: Bs.take m) (lA + 1 + lB) ∧ Below w2.heap.size w2 wr) (fun _ i _ => lB - (intOf i).toNat)
      case atStart => exact ⟨0, rfl, rfl, by omega, own0, bel0⟩
      case round =>
        obtain ⟨m, rfl, rfl, hm, hown, hbel⟩ := hrel
        clear own0 bel0
        have hlk : (A ++ 10 :: Bs.take m).length = k + 1 + m := by simp; omega
        by_cases hlt2 : m < lB
        · have hc1 : wr.cell? ⟨BB, m, none⟩ = some (.int .u8 (bt Bs m)) := by rw [hbel.cell hBBw]; exact HBB.out.1.2.2.1 m hlt2
          have ho := own_out hown hlk
          clear hown
          go_wp2_with (at_builtin; refine wpList_append_fits _ rfl (.tmp 90) (.tmp 95) 22 rfl w2.heap.size 5 i0 1 Try.underlying22 hi hz1 w2.heap.size (k + 1 + m) (lA + 1 + lB) _ rfl (ho.alloc _) ⟨wr.heap.size, 0, none⟩ 1 1 [.int .u8 (bt Bs m)] rfl rfl (cell_one_new _ _ _) (ints_oneCell .u8 [(bt Bs m)]) (by omega) ?_; intro w4 hownw4 hgroww4)
          have R : Hid (Own w4 w2.heap.size (A ++ 10 :: Bs.take (m + 1)) (lA + 1 + lB) ∧ Below w2.heap.size w2 w4) := by
            refine ⟨?_, below_step hbel hbel.size (Nat.le_refl _) hgroww4⟩
            rw [← take_succ_bt Bs m (by omega)]
            have := own_step hlk hownw4
            simp only [List.append_assoc, List.cons_append] at this
            exact this
          clear ho hownw4 hgroww4
          go_roundw
          case rel => exact ⟨m + 1, rfl, by go_num, by omega, R.out.1, R.out.2⟩
          case measure => simp [intOf]; omega
        · have hlJ : (A ++ 10 :: Bs.take m).length = k + 1 + m := hlk
          have eM : Bs.take m = Bs := List.take_of_length_le (by omega)
          rw [eM] at hown hlJ
          clear eM hlk
          have HJ : Hid (Book wr w2.heap.size (k + 1 + m) (lA + 1 + lB) (A ++ 10 :: Bs)) := by
            have := own_book hown (by omega) (by rw [hlJ]; omega) (join_range A Bs HAr.out HBr.out) (own_lt hown)
            rw [hlJ] at this
            exact this
          obtain ⟨ca, la, cb, lb, e1, e2, e3, r1, r2, r3, r4, r5, r6⟩ := cv_join A Bs 9223372036854775807 (.inr GA.out.1) (.inr GB.out) (.inr (by rw [hAl]; exact GA.out.2)) (by simp; omega)
          have HE1 : Hid (cv A 9223372036854775807 = (ca, none, la)) := e1
          have HE2 : Hid (cv Bs 9223372036854775807 = (cb, none, lb)) := e2
          have HE3 : Hid (cv (A ++ 10 :: Bs) 9223372036854775807 = (ca + cb - 4, none, la + lb)) := e3
          rw [hAl] at r3 r5
          rw [hBl] at r4 r6
          clear e1 e2 e3 hown hlJ
          go_wp2_with fail
          refine (zzCount_any BA lA lA A 9223372036854775807 wr (HBA.out.later hbel)).mono ?_
          rintro e w5 ⟨rfl, hb5⟩
          rw [HE1.out]
          unfold cvTuple
          go_wp2_with fail
          refine (zzCount_any BB lB lB Bs 9223372036854775807 w5 ((HBB.out.later hbel).later hb5)).mono ?_
          rintro e w6 ⟨rfl, hb6⟩
          rw [HE2.out]
          unfold cvTuple
          go_wp2_with fail
          refine (zzCount_any w2.heap.size (k + 1 + m) (lA + 1 + lB) (A ++ 10 :: Bs) 9223372036854775807 w6 ((HJ.out.later hb5).later hb6)).mono ?_
          rintro e w7 ⟨rfl, hb7⟩
          rw [HE3.out]
          unfold cvTuple
          have hfin : Below w.heap.size w w7 := hbw.trans ((hbel.mono hbw.size).trans ((hb5.mono (Nat.le_trans hbw.size hbel.size)).trans ((hb6.mono (Nat.le_trans (Nat.le_trans hbw.size hbel.size) hb5.size)).trans (hb7.mono (Nat.le_trans (Nat.le_trans (Nat.le_trans hbw.size hbel.size) hb5.size) hb6.size)))))
          clear hb5 hb6 hb7
          go_wp2_with fail
          go_ret
          exact ⟨rfl, hfin⟩

set_option maxRecDepth 100000 in
set_option maxHeartbeats 4000000 in
theorem adds_RE (bA oA lA cA : Nat) (A : List Int) (aB : Option Addr) (cB : Nat) (w : World) (hA0 : 0 < lA) (hAl : A.length = lA) (hA2 : lA ≤ 524288) (hAc : ∀ i, i < lA → w.cell? ⟨bA, oA + i, none⟩ = some (.int .u8 (bt A i))) (hAr : ∀ i, 0 ≤ bt A i ∧ bt A i ≤ 255)  (g1 : bt A 0 < 128) (g3 : ¬ bt A (lA - 1) = 13)  :
    Calls Try.prog 5 #[.slice (some ⟨bA, oA, none⟩) lA cA, .slice aB 0 cB] w fun e w' => e = .returned (.bool true) ∧ Below w.heap.size w w' := by
  obtain ⟨i0, hi, hz0, hz1, hz2⟩ := info_parts info5
  have hbA : bA < w.heap.size := block_lt_of_cell (hAc 0 hA0)
  have cA0 := hAc 0 hA0
  have cA1 := hAc (lA - 1) (by omega)
  rw [Nat.add_zero] at cA0
  have KA : Hid _ := fun w1 (hb : Below w.heap.size w w1) => clone_row bA oA lA cA A w1 hA0 hAl (by omega) (fun i hi => by rw [hb.cell hbA]; exact hAc i hi) hAr
  have g3' : (bt A (lA - 1) == 13) = false := beq_eq_false_iff_ne.2 g3
  have GA : Hid (bt A 0 < 128 ∧ ¬ bt A (lA - 1) = 13) := ⟨g1, g3⟩
  have HAr : Hid (∀ i, 0 ≤ bt A i ∧ bt A i ≤ 255) := hAr
  clear hAc hAr g3
  go_enter Try.func5, Try.ntmps5
  go_wp2_with (go_at_call 18; go_in)
  refine (KA.out w (Below.refl _ _)).mono ?_
  rintro e w1 ⟨BA, rfl, hBA, hge1, hb1⟩
  clear cA0 cA1
  go_wp2_with fail
  refine (clone_empty aB cB w1).mono ?_
  rintro e w2 ⟨a2, rfl, hb2⟩
  have hBA2 := hBA.later hb2
  have HBA : Hid (Book w2 BA lA lA A) := hBA2
  have hBAw : BA < w2.heap.size := hBA2.2.2.2
  clear hBA hBA2 KA hge1
  have hbw : Below w.heap.size w w2 := hb1.trans (hb2.mono hb1.size)
  clear hb1 hb2
  have hmk : (Instr.makeSlice 22 (.int .i64 0) (.int .i64 ((lA : Int) + 1))).run Try.prog w2 = .ok (.slice (some ⟨w2.heap.size, 0, none⟩) 0 (lA + 1)) (w2.alloc (.cells (row (List.replicate (lA + 1) 0)) 5)) := make_row 0 (lA + 1) (by omega) (by omega) w2
  have own0 := own_new w2 (lA + 1) (by omega)
  have bel0 : Below w2.heap.size w2 (w2.alloc (.cells (row (List.replicate (lA + 1) 0)) 5)) := (Below.refl _ _).alloc (Nat.le_refl _) _
  generalize hR : row (List.replicate (lA + 1) 0) = RR at hmk own0 bel0
  clear hR
  go_wp2_with fail
  clear hmk
  go_loopw [5, 6] (fun j i wr => ∃ k : Nat, j = .slice (some ⟨w2.heap.size, 0, none⟩) k (lA + 1) ∧ i = .int .i64 k ∧ k ≤ lA ∧ Own wr w2.heap.size (A.take k) (lA + 1) ∧ Below w2.heap.size w2 wr) (fun _ i _ => lA - (intOf i).toNat)
  case atStart => exact ⟨0, rfl, rfl, by omega, own0, bel0⟩
  case round =>
    obtain ⟨k, rfl, rfl, hk, hown, hbel⟩ := hrel
    clear own0 bel0
    by_cases hlt : k < lA
    · have hc1 : wr.cell? ⟨BA, k, none⟩ = some (.int .u8 (bt A k)) := by rw [hbel.cell hBAw]; exact HBA.out.1.2.2.1 k hlt
      have hlk : (A.take k).length = k := by simp; omega
      have ho := own_out hown hlk
      clear hown
      go_wp2_with (at_builtin; refine wpList_append_fits _ rfl (.tmp 74) (.tmp 79) 22 rfl w2.heap.size 5 i0 1 Try.underlying22 hi hz1 w2.heap.size k (lA + 1) _ rfl (ho.alloc _) ⟨wr.heap.size, 0, none⟩ 1 1 [.int .u8 (bt A k)] rfl rfl (cell_one_new _ _ _) (ints_oneCell .u8 [(bt A k)]) (by omega) ?_; intro w3 hownw3 hgroww3)
      have R : Hid (Own w3 w2.heap.size (A.take (k + 1)) (lA + 1) ∧ Below w2.heap.size w2 w3) := by
        refine ⟨?_, below_step hbel hbel.size (Nat.le_refl _) hgroww3⟩
        rw [← take_succ_bt A k (by omega)]
        exact own_step hlk hownw3
      clear ho hownw3 hgroww3
      go_roundw
      case rel => exact ⟨k + 1, rfl, by go_num, by omega, R.out.1, R.out.2⟩
      case measure => simp [intOf]; omega
    · have HK : Hid (A.take k = A) := by show A.take k = A; exact List.take_of_length_le (by omega)
      have hlk : (A.take k).length = k := by simp; omega
      have ho := own_out hown hlk
      have hkl : k ≤ lA ∧ lA ≤ k := by omega
      clear hown
      go_wp2_with (at_builtin; refine wpList_append_fits _ rfl (.tmp 81) (.tmp 82) 22 rfl w2.heap.size 5 i0 1 Try.underlying22 hi hz1 w2.heap.size k (lA + 1) _ rfl (ho.alloc _) ⟨wr.heap.size, 0, none⟩ 1 1 [.int .u8 10] rfl rfl (cell_one_new _ _ _) (ints_oneCell .u8 [10]) (by omega) ?_; intro w3 hownw3 hgroww3)
      have own0 : Own w3 w2.heap.size (A ++ [10]) (lA + 1) := by have := own_step hlk hownw3; rw [HK.out] at this; exact this
      have bel0 : Below w2.heap.size w2 w3 := below_step hbel hbel.size (Nat.le_refl _) hgroww3
      clear ho hownw3 hgroww3 hbel HK hlk
      refine wp_loop_rounds 1 ?_
      rw [rounds_succ]
      have hown := own0
      have hbel := bel0
      clear own0 bel0
      generalize w3 = wr at hown hbel ⊢
      have hlJ : (A ++ [10] : List Int).length = k + 1 := by simp; omega
      have HJ : Hid (Book wr w2.heap.size (k + 1) (lA + 1) (A ++ [10])) := by
        have := own_book hown (by omega) (by rw [hlJ]; omega) (join_range A [] HAr.out (fun i => by simp [bt])) (own_lt hown)
        rw [hlJ] at this
        exact this
      obtain ⟨ca, la, cb, lb, e1, e2, e3, r1, r2, r3, r4, r5, r6⟩ := cv_join A [] 9223372036854775807 (.inr GA.out.1) (.inl rfl) (.inr (by rw [hAl]; exact GA.out.2)) (by simp; omega)
      have HE1 : Hid (cv A 9223372036854775807 = (ca, none, la)) := e1
      have HE2 : Hid (cv [] 9223372036854775807 = (cb, none, lb)) := e2
      have HE3 : Hid (cv (A ++ [10]) 9223372036854775807 = (ca + cb - 4, none, la + lb)) := e3
      rw [hAl] at r3 r5
      simp only [List.length_nil] at r4 r6
      clear e1 e2 e3 hown hlJ
      go_wp2_with fail
      refine (zzCount_any BA lA lA A 9223372036854775807 wr (HBA.out.later hbel)).mono ?_
      rintro e w5 ⟨rfl, hb5⟩
      rw [HE1.out]
      unfold cvTuple
      go_wp2_with fail
      refine (zzCount_empty a2 0 9223372036854775807 w5).mono ?_
      rintro e w6 ⟨rfl, hb6⟩
      rw [HE2.out]
      unfold cvTuple
      go_wp2_with fail
      refine (zzCount_any w2.heap.size (k + 1) (lA + 1) (A ++ [10]) 9223372036854775807 w6 ((HJ.out.later hb5).later hb6)).mono ?_
      rintro e w7 ⟨rfl, hb7⟩
      rw [HE3.out]
      unfold cvTuple
      have hfin : Below w.heap.size w w7 := hbw.trans ((hbel.mono hbw.size).trans ((hb5.mono (Nat.le_trans hbw.size hbel.size)).trans ((hb6.mono (Nat.le_trans (Nat.le_trans hbw.size hbel.size) hb5.size)).trans (hb7.mono (Nat.le_trans (Nat.le_trans (Nat.le_trans hbw.size hbel.size) hb5.size) hb6.size)))))
      clear hb5 hb6 hb7
      go_wp2_with fail
      go_ret
      exact ⟨rfl, hfin⟩

set_option maxRecDepth 100000 in
set_option maxHeartbeats 4000000 in
theorem adds_ER (aA : Option Addr) (cA : Nat) (bB oB lB cB : Nat) (Bs : List Int) (w : World)  (hB0 : 0 < lB) (hBl : Bs.length = lB) (hB2 : lB ≤ 524288) (hBc : ∀ i, i < lB → w.cell? ⟨bB, oB + i, none⟩ = some (.int .u8 (bt Bs i))) (hBr : ∀ i, 0 ≤ bt Bs i ∧ bt Bs i ≤ 255)  (g2 : bt Bs 0 < 128) :
    Calls Try.prog 5 #[.slice aA 0 cA, .slice (some ⟨bB, oB, none⟩) lB cB] w fun e w' => e = .returned (.bool true) ∧ Below w.heap.size w w' := by
  obtain ⟨i0, hi, hz0, hz1, hz2⟩ := info_parts info5
  have hbB : bB < w.heap.size := block_lt_of_cell (hBc 0 hB0)
  have cB0 := hBc 0 hB0
  rw [Nat.add_zero] at cB0
  have KB : Hid _ := fun w1 (hb : Below w.heap.size w w1) => clone_row bB oB lB cB Bs w1 hB0 hBl (by omega) (fun i hi => by rw [hb.cell hbB]; exact hBc i hi) hBr
  have GB : Hid (bt Bs 0 < 128) := g2
  have HBr : Hid (∀ i, 0 ≤ bt Bs i ∧ bt Bs i ≤ 255) := hBr
  clear hBc hBr
  go_enter Try.func5, Try.ntmps5
  go_wp2_with (go_at_call 18; go_in)
  refine (clone_empty aA cA w).mono ?_
  rintro e w1 ⟨a1, rfl, hb1⟩
  clear cB0
  go_wp2_with fail
  refine (KB.out w1 hb1).mono ?_
  rintro e w2 ⟨BB, rfl, hBB, hge2, hb2⟩
  have HBB : Hid (Book w2 BB lB lB Bs) := hBB
  have hBBw : BB < w2.heap.size := hBB.2.2.2
  clear hBB KB hge2
  have hbw : Below w.heap.size w w2 := hb1.trans (hb2.mono hb1.size)
  clear hb1 hb2
  have hmk : (Instr.makeSlice 22 (.int .i64 0) (.int .i64 (1 + (lB : Int)))).run Try.prog w2 = .ok (.slice (some ⟨w2.heap.size, 0, none⟩) 0 (1 + lB)) (w2.alloc (.cells (row (List.replicate (1 + lB) 0)) 5)) := make_row 0 (1 + lB) (by omega) (by omega) w2
  have own0 := own_new w2 (1 + lB) (by omega)
  have bel0 : Below w2.heap.size w2 (w2.alloc (.cells (row (List.replicate (1 + lB) 0)) 5)) := (Below.refl _ _).alloc (Nat.le_refl _) _
  generalize hR : row (List.replicate (1 + lB) 0) = RR at hmk own0 bel0
  clear hR
  go_wp2_with fail
  clear hmk
  refine wp_loop_rounds 1 ?_
  rw [rounds_succ]
  have ho := own_out own0 (n := 0) rfl
  go_wp2_with (at_builtin; refine wpList_append_fits _ rfl (.tmp 81) (.tmp 82) 22 rfl w2.heap.size 5 i0 1 Try.underlying22 hi hz1 w2.heap.size 0 (1 + lB) _ rfl (ho.alloc _) ⟨w2.heap.size + 1, 0, none⟩ 1 1 [.int .u8 10] rfl rfl (cell_one_new' _ _ _ _) (ints_oneCell .u8 [10]) (by omega) ?_; intro w3 hownw3 hgroww3)
  have own1 : Own w3 w2.heap.size [10] (1 + lB) := own_step (xs := []) rfl hownw3
  have bel1 : Below w2.heap.size w2 w3 := below_step bel0 bel0.size (Nat.le_refl _) hgroww3
  clear ho hownw3 hgroww3 own0 bel0
  have own0 := own1
  have bel0 := bel1
  clear own1 bel1
  go_loopw [5, 7] (fun j i wr => ∃ m : Nat, j = .slice (some ⟨w2.heap.size, 0, none⟩) (1 + m) (1 + lB) ∧ i = .int .i64 m ∧ m ≤ lB ∧ Own wr w2.heap.size (10 :: Bs.take m) (1 + lB) ∧ Below w2.heap.size w2 wr) (fun _ i _ => lB - (intOf i).toNat)
  case atStart => exact ⟨0, rfl, rfl, by omega, own0, bel0⟩
  case round =>
    obtain ⟨m, rfl, rfl, hm, hown, hbel⟩ := hrel
    clear own0 bel0
    have hlk : (10 :: Bs.take m).length = 1 + m := by simp; omega
    by_cases hlt2 : m < lB
    · have hc1 : wr.cell? ⟨BB, m, none⟩ = some (.int .u8 (bt Bs m)) := by rw [hbel.cell hBBw]; exact HBB.out.1.2.2.1 m hlt2
      have ho := own_out hown hlk
      clear hown
      go_wp2_with (at_builtin; refine wpList_append_fits _ rfl (.tmp 90) (.tmp 95) 22 rfl w2.heap.size 5 i0 1 Try.underlying22 hi hz1 w2.heap.size (1 + m) (1 + lB) _ rfl (ho.alloc _) ⟨wr.heap.size, 0, none⟩ 1 1 [.int .u8 (bt Bs m)] rfl rfl (cell_one_new _ _ _) (ints_oneCell .u8 [(bt Bs m)]) (by omega) ?_; intro w4 hownw4 hgroww4)
      have R : Hid (Own w4 w2.heap.size (10 :: Bs.take (m + 1)) (1 + lB) ∧ Below w2.heap.size w2 w4) := by
        refine ⟨?_, below_step hbel hbel.size (Nat.le_refl _) hgroww4⟩
        rw [← take_succ_bt Bs m (by omega)]
        have := own_step hlk hownw4
        simp only [List.cons_append] at this
        exact this
      clear ho hownw4 hgroww4
      go_roundw
      case rel => exact ⟨m + 1, rfl, by go_num, by omega, R.out.1, R.out.2⟩
      case measure => simp [intOf]; omega
    · have hlJ : (10 :: Bs.take m).length = 1 + m := hlk
      have eM : Bs.take m = Bs := List.take_of_length_le (by omega)
      rw [eM] at hown hlJ
      clear eM hlk
      have HJ : Hid (Book wr w2.heap.size (1 + m) (1 + lB) (10 :: Bs)) := by
        have := own_book hown (by omega) (by rw [hlJ]; omega) (join_range [] Bs (fun i => by simp [bt]) HBr.out) (own_lt hown)
        rw [hlJ] at this
        exact this
      obtain ⟨ca, la, cb, lb, e1, e2, e3, r1, r2, r3, r4, r5, r6⟩ := cv_join [] Bs 9223372036854775807 (.inl rfl) (.inr GB.out) (.inl rfl) (by simp; omega)
      have HE1 : Hid (cv [] 9223372036854775807 = (ca, none, la)) := e1
      have HE2 : Hid (cv Bs 9223372036854775807 = (cb, none, lb)) := e2
      have HE3 : Hid (cv (10 :: Bs) 9223372036854775807 = (ca + cb - 4, none, la + lb)) := e3
      simp only [List.length_nil] at r3 r5
      rw [hBl] at r4 r6
      clear e1 e2 e3 hown hlJ
      go_wp2_with fail
      refine (zzCount_empty a1 0 9223372036854775807 wr).mono ?_
      rintro e w5 ⟨rfl, hb5⟩
      rw [HE1.out]
      unfold cvTuple
      go_wp2_with fail
      refine (zzCount_any BB lB lB Bs 9223372036854775807 w5 ((HBB.out.later hbel).later hb5)).mono ?_
      rintro e w6 ⟨rfl, hb6⟩
      rw [HE2.out]
      unfold cvTuple
      go_wp2_with fail
      refine (zzCount_any w2.heap.size (1 + m) (1 + lB) (10 :: Bs) 9223372036854775807 w6 ((HJ.out.later hb5).later hb6)).mono ?_
      rintro e w7 ⟨rfl, hb7⟩
      rw [HE3.out]
      unfold cvTuple
      have hfin : Below w.heap.size w w7 := hbw.trans ((hbel.mono hbw.size).trans ((hb5.mono (Nat.le_trans hbw.size hbel.size)).trans ((hb6.mono (Nat.le_trans (Nat.le_trans hbw.size hbel.size) hb5.size)).trans (hb7.mono (Nat.le_trans (Nat.le_trans (Nat.le_trans hbw.size hbel.size) hb5.size) hb6.size)))))
      clear hb5 hb6 hb7
      go_wp2_with fail
      go_ret
      exact ⟨rfl, hfin⟩

set_option maxRecDepth 100000 in
set_option maxHeartbeats 4000000 in
theorem adds_EE (aA : Option Addr) (cA : Nat) (aB : Option Addr) (cB : Nat) (w : World)     :
    Calls Try.prog 5 #[.slice aA 0 cA, .slice aB 0 cB] w fun e w' => e = .returned (.bool true) ∧ Below w.heap.size w w' := by
  obtain ⟨i0, hi, hz0, hz1, hz2⟩ := info_parts info5
  go_enter Try.func5, Try.ntmps5
  go_wp2_with (go_at_call 18; go_in)
  refine (clone_empty aA cA w).mono ?_
  rintro e w1 ⟨a1, rfl, hb1⟩
  go_wp2_with fail
  refine (clone_empty aB cB w1).mono ?_
  rintro e w2 ⟨a2, rfl, hb2⟩
  have hbw : Below w.heap.size w w2 := hb1.trans (hb2.mono hb1.size)
  clear hb1 hb2
  have hmk : (Instr.makeSlice 22 (.int .i64 0) (.int .i64 1)).run Try.prog w2 = .ok (.slice (some ⟨w2.heap.size, 0, none⟩) 0 (1)) (w2.alloc (.cells (row (List.replicate (1) 0)) 5)) := make_row 0 (1) (by omega) (by omega) w2
  have own0 := own_new w2 (1) (by omega)
  have bel0 : Below w2.heap.size w2 (w2.alloc (.cells (row (List.replicate (1) 0)) 5)) := (Below.refl _ _).alloc (Nat.le_refl _) _
  generalize hR : row (List.replicate (1) 0) = RR at hmk own0 bel0
  clear hR
  go_wp2_with fail
  clear hmk
  refine wp_loop_rounds 1 ?_
  rw [rounds_succ]
  have ho := own_out own0 (n := 0) rfl
  go_wp2_with (at_builtin; refine wpList_append_fits _ rfl (.tmp 81) (.tmp 82) 22 rfl w2.heap.size 5 i0 1 Try.underlying22 hi hz1 w2.heap.size 0 (1) _ rfl (ho.alloc _) ⟨w2.heap.size + 1, 0, none⟩ 1 1 [.int .u8 10] rfl rfl (cell_one_new' _ _ _ _) (ints_oneCell .u8 [10]) (by omega) ?_; intro w3 hownw3 hgroww3)
  have own1 : Own w3 w2.heap.size [10] (1) := own_step (xs := []) rfl hownw3
  have bel1 : Below w2.heap.size w2 w3 := below_step bel0 bel0.size (Nat.le_refl _) hgroww3
  clear ho hownw3 hgroww3 own0 bel0
  have own0 := own1
  have bel0 := bel1
  clear own1 bel1
  refine wp_loop_rounds 1 ?_
  rw [rounds_succ]
  have hown := own0
  have hbel := bel0
  clear own0 bel0
  generalize w3 = wr at hown hbel ⊢
  have hlJ : ([10] : List Int).length = 1 := by simp
  have HJ : Hid (Book wr w2.heap.size (1) (1) ([10])) := by
    have := own_book hown (by omega) (by rw [hlJ]; omega) (join_range [] [] (fun i => by simp [bt]) (fun i => by simp [bt])) (own_lt hown)
    rw [hlJ] at this
    exact this
  obtain ⟨ca, la, cb, lb, e1, e2, e3, r1, r2, r3, r4, r5, r6⟩ := cv_join [] [] 9223372036854775807 (.inl rfl) (.inl rfl) (.inl rfl) (by simp)
  have HE1 : Hid (cv [] 9223372036854775807 = (ca, none, la)) := e1
  have HE2 : Hid (cv [] 9223372036854775807 = (cb, none, lb)) := e2
  have HE3 : Hid (cv ([10]) 9223372036854775807 = (ca + cb - 4, none, la + lb)) := e3
  simp only [List.length_nil] at r3 r5
  simp only [List.length_nil] at r4 r6
  clear e1 e2 e3 hown hlJ
  go_wp2_with fail
  refine (zzCount_empty a1 0 9223372036854775807 wr).mono ?_
  rintro e w5 ⟨rfl, hb5⟩
  rw [HE1.out]
  unfold cvTuple
  go_wp2_with fail
  refine (zzCount_empty a2 0 9223372036854775807 w5).mono ?_
  rintro e w6 ⟨rfl, hb6⟩
  rw [HE2.out]
  unfold cvTuple
  go_wp2_with fail
  refine (zzCount_any w2.heap.size (1) (1) ([10]) 9223372036854775807 w6 ((HJ.out.later hb5).later hb6)).mono ?_
  rintro e w7 ⟨rfl, hb7⟩
  rw [HE3.out]
  unfold cvTuple
  have hfin : Below w.heap.size w w7 := hbw.trans ((hbel.mono hbw.size).trans ((hb5.mono (Nat.le_trans hbw.size hbel.size)).trans ((hb6.mono (Nat.le_trans (Nat.le_trans hbw.size hbel.size) hb5.size)).trans (hb7.mono (Nat.le_trans (Nat.le_trans (Nat.le_trans hbw.size hbel.size) hb5.size) hb6.size)))))
  clear hb5 hb6 hb7
  go_wp2_with fail
  go_ret
  exact ⟨rfl, hfin⟩
end Go.Proofs.Qxb6001236a.Walks
