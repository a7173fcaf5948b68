import Derived.Test.Qxb6600795aWalkA
import Derived.Laws.MakeOwn
import Derived.Laws.OwnMore
namespace Go.Proofs.Qxb6600795a.Walks
open Go.RowKit Go.Proofs.Qxb6600795a.Plain
set_option linter.unusedVariables false

def row (xs : List Int) : Array Value := (xs.map (Value.int .u8)).toArray
theorem row_size (xs : List Int) : (row xs).size = xs.length := by simp [row]
/-- 'make([]byte, 0, m)' -/
theorem make_row (m : Nat) (hm : m ≤ 4194304) (w : World) : (Instr.makeSlice 22 (.int .i64 0) (.int .i64 m)).run Try.prog w = .ok (.slice (some ⟨w.heap.size, 0, none⟩) 0 m) (w.alloc (.cells (row (List.replicate m 0)) 5)) := by
  obtain ⟨i0, hi, hz0, hz1, hz2⟩ := info_parts info5
  rw [run_make (P := Try.prog) w 22 5 i0 (.int .u8 0) Try.underlying22 hi hz0 .i64 .i64 0 m (by omega) (by omega) (by rw [hz2]; omega) (by omega), hz1]
  have e : madeCells (Value.int .u8 0).cells ((m : Int).toNat * 1) = row (List.replicate m 0) := by
    apply Array.toList_inj.1
    have : (Value.int .u8 0).cells = #[Value.int .u8 0] := rfl
    rw [this, toList_madeCells_one]
    simp [row]
  rw [e]; rfl
theorem own_new (w : World) (cap : Nat) (hc : cap ≤ 4194304) : Own (w.alloc (.cells (row (List.replicate cap 0)) 5)) w.heap.size [] cap := by
  refine ⟨rfl, .inr ⟨w.heap.size, cap, row (List.replicate cap 0), rfl, Nat.le_refl _, heap_alloc_new w _, by simp, by unfold maxLen; omega, by simp [row_size], by simp⟩⟩
theorem nil_own (w : World) (J cap : Nat) (h : Own w J [] cap) : w.ownsRow J 5 1 (.slice (some ⟨J, 0, none⟩) 0 cap) 0 [] := h
theorem ret_bool {a b : Bool} (h : a = b) : Ending.returned (.bool a) = .returned (.bool b) := by rw [h]
/-- an old cell in a later world -/
theorem kept_cell {B : Nat} {w w' : World} (hb : Below B w w') (hB : w.heap.size ≤ B) {a : Addr} {v : Value} (h : w.cell? a = some v) : w'.cell? a = some v := by
  rw [hb.cell (Nat.lt_of_lt_of_le (block_lt_of_cell h) hB)]; exact h

/-- a slice of bytes that came in, as an append reads it -/
def Src (w : World) (a : Option Addr) (len cap : Nat) (ds : List Int) : Prop :=
  ds.length = len ∧ (a = none → len = 0 ∧ cap = 0) ∧ ∀ ad, a = some ad → ∀ j u, (ds.map (Value.int .u8))[j]? = some u → w.cell? (ad.add j) = some u
theorem Src.later {w w' : World} {B : Nat} {a : Option Addr} {len cap : Nat} {ds : List Int} (h : Src w a len cap ds) (hb : Below B w w') (hB : w.heap.size ≤ B) : Src w' a len cap ds :=
  ⟨h.1, h.2.1, fun ad ha j u hj => kept_cell hb hB (h.2.2 ad ha j u hj)⟩
theorem map_len (ds : List Int) (n : Nat) (h : ds.length = n) : (ds.map (Value.int .u8)).length = n * 1 := by simp [h]
theorem own_in {w : World} {J cap n : Nat} {xs : List Int} (hn : xs.length = n) (h : w.ownsRow J 5 1 (.slice (some ⟨J, 0, none⟩) n cap) n (xs.map (Value.int .u8))) : Own w J xs cap := by subst hn; exact h
theorem below_grown {B J : Nat} {a w w' : World} (h : Below B a w) (hB : B ≤ w.heap.size) (hJ : B ≤ J) (hg : w.grownBy w' (some J)) : Below B a w' :=
  h.grown hg hB (fun k hk => by cases hk; exact hJ)
/-- THE TEXT: what is skipped -/
theorem sk_text (Pf P Tl : List Int) (l0 : Nat) (h : Pf.length = l0) (hP : ∀ x ∈ P, 0 ≤ x ∧ x ≤ 255) : sk ((Pf ++ [34] ++ esc P ++ [34] ++ Tl).drop (l0 + 1)) = some ((esc P).length + 1) := by
  have : (Pf ++ [34] ++ esc P ++ [34] ++ Tl).drop (l0 + 1) = esc P ++ 34 :: Tl := by
    rw [show Pf ++ [34] ++ esc P ++ [34] ++ Tl = (Pf ++ [34]) ++ (esc P ++ 34 :: Tl) by simp, show l0 + 1 = (Pf ++ [34]).length by simp [h], List.drop_left]
  rw [this]
  exact sk_esc P Tl hP
theorem mem_bt (ds : List Int) (h : ∀ i, 0 ≤ bt ds i ∧ bt ds i ≤ 255) : ∀ x ∈ ds, 0 ≤ x ∧ x ≤ 255 := by
  intro x hx
  obtain ⟨j, hj, rfl⟩ := List.getElem_of_mem hx
  have := h j
  unfold bt at this
  rw [List.getD_eq_getElem?_getD, List.getElem?_eq_getElem hj] at this
  exact this

set_option maxRecDepth 10000 in
set_option maxHeartbeats 400000 in
/-- zzBytes_FnSkipStringSkipsAnEscapedText, function 14, where the lengths are small -/
theorem bytes_yes (a0 a1 a2 : Option Addr) (l0 c0 l1 c1 l2 c2 : Nat) (w : World) (g4 : (l0 : Int) + (l1 : Int) + (l2 : Int) ≤ 1048576) :
    Calls Try.prog 14 #[.slice a0 l0 c0, .slice a1 l1 c1, .slice a2 l2 c2] w fun e w' => e = .returned (.bool true) ∧ w' = w := by
  have g0 : (l0 : Int) ≤ 1048576 := by omega
  have g1 : (l1 : Int) ≤ 1048576 := by omega
  have g2 : (l2 : Int) ≤ 1048576 := by omega
  have g3 : (l0 : Int) + (l1 : Int) ≤ 1048576 := by omega
  go_enter Try.func14, Try.ntmps14
  go_wp2
  go_ret
  exact ⟨rfl, rfl⟩


set_option maxRecDepth 100000 in
set_option maxHeartbeats 4000000 in
/-- the law, the payload not empty -/
theorem law_R (a0 : Option Addr) (l0 c0 : Nat) (Pf : List Int) (b o l1 c1 : Nat) (P : List Int) (a2 : Option Addr) (l2 c2 : Nat) (Tl : List Int) (w : World) (s0 : Src w a0 l0 c0 Pf) (s2 : Src w a2 l2 c2 Tl) (h1 : 0 < l1) (hPl : P.length = l1) (hPc : ∀ i, i < l1 → w.cell? ⟨b, o + i, none⟩ = some (.int .u8 (bt P i))) (hPr : ∀ i, 0 ≤ bt P i ∧ bt P i ≤ 255) (hp : l1 ≤ 131072) (hcap : (l0 : Int) + 6 * (l1 : Int) + (l2 : Int) ≤ 1048574) :
    Calls Try.prog 6 #[.slice a0 l0 c0, .slice (some ⟨b, o, none⟩) l1 c1, .slice a2 l2 c2] w fun e w' => e = .returned (.bool true) ∧ Below w.heap.size w w' := by
  obtain ⟨i0, hi, hz0, hz1, hz2⟩ := info_parts info5
  have hmk : (Instr.makeSlice 22 (.int .i64 0) (.int .i64 ((l0 : Int) + 6 * (l1 : Int) + (l2 : Int) + 2))).run Try.prog w = .ok (.slice (some ⟨w.heap.size, 0, none⟩) 0 (l0 + 6 * l1 + l2 + 2)) (w.alloc (.cells (row (List.replicate (l0 + 6 * l1 + l2 + 2) 0)) 5)) := make_row (l0 + 6 * l1 + l2 + 2) (by omega) w
  have own0 := own_new w (l0 + 6 * l1 + l2 + 2) (by omega)
  have bel0 : Below w.heap.size w (w.alloc (.cells (row (List.replicate (l0 + 6 * l1 + l2 + 2) 0)) 5)) := (Below.refl _ _).alloc (Nat.le_refl _) _
  have sz0 : (w.alloc (.cells (row (List.replicate (l0 + 6 * l1 + l2 + 2) 0)) 5)).heap.size = w.heap.size + 1 := by simp
  generalize hR : row (List.replicate (l0 + 6 * l1 + l2 + 2) 0) = RR at hmk own0 bel0 sz0
  clear hR
  have ho := nil_own _ _ _ own0
  have S0 : Hid (Src (w.alloc (.cells RR 5)) a0 l0 c0 Pf) := s0.later bel0 (Nat.le_refl _)
  have S2 : Hid (Src w a2 l2 c2 Tl) := s2
  have hl0 : Pf.length = l0 := s0.1
  have hl2 : Tl.length = l2 := s2.1
  have HPc : Hid (∀ i, i < l1 → w.cell? ⟨b, o + i, none⟩ = some (.int .u8 (bt P i))) := hPc
  have HPr : Hid (∀ i, 0 ≤ bt P i ∧ bt P i ≤ 255) := hPr
  have hbw : b < w.heap.size := block_lt_of_cell (hPc 0 h1)
  have hel := esc_len P
  rw [hPl] at hel
  clear hPc hPr
  clear s0 s2
  have hdec : decide ((1048576 : Int) < (l0 : Int) + 6 * (l1 : Int) + (l2 : Int) + 2) = false := decide_eq_false (by omega)
  go_enter Try.func6, Try.ntmps6
  go_wp2_with fail
  refine (bytes_yes a0 _ a2 l0 c0 _ _ l2 c2 w (by omega)).mono ?_
  rintro e w0 ⟨rfl, hw0⟩
  subst hw0
  go_wp2_with (first | (at_builtin; refine wpList_append_fits_any _ rfl (.tmp 49) (.tmp 50) 22 rfl w0.heap.size 5 i0 1 Try.underlying22 hi hz1 w0.heap.size 0 (l0 + 6 * l1 + l2 + 2) _ rfl ho a0 l0 c0 (Pf.map (Value.int .u8)) rfl (map_len Pf l0 hl0) S0.out.2.1 S0.out.2.2 (ints_oneCell .u8 Pf) (by omega) ?_; intro w1 hown1 hgrow1; simp only [Nat.zero_add, List.nil_append] at hown1) | (at_builtin; refine wpList_append_fits _ rfl (.tmp 52) (.tmp 53) 22 rfl w0.heap.size 5 i0 1 Try.underlying22 hi hz1 w0.heap.size l0 (l0 + 6 * l1 + l2 + 2) _ rfl (hown1.alloc _) ⟨w1.heap.size, 0, none⟩ 1 1 [.int .u8 34] rfl rfl (cells_new _ _ _) (ints_oneCell .u8 [34]) (by omega) ?_; intro w2 hown2 hgrow2))
  have own2 : Own w2 w0.heap.size (Pf ++ [34]) (l0 + 6 * l1 + l2 + 2) := own_step hl0 rfl hown2
  have bel1 : Below w0.heap.size w0 w1 := below_grown bel0 bel0.size (Nat.le_refl _) hgrow1
  have bel2 : Below w0.heap.size w0 w2 := below_step bel1 bel1.size (Nat.le_refl _) hgrow2
  have hln2 : (Pf ++ [34]).length = l0 + 1 := by simp [hl0]
  clear ho own0 bel0 hown1 hgrow1 hown2 hgrow2 bel1 hmk S0
  have HE : Hid _ := esc_row w0.heap.size (l0 + 6 * l1 + l2 + 2) b o l1 c1 (l0 + 1) P (Pf ++ [34]) w2 hPl (by omega) (fun i hi => by rw [bel2.cell hbw]; exact HPc.out i hi) HPr.out hbw own2 hln2 (by omega) (by omega)
  obtain ⟨L, hL⟩ : ∃ L, L = (esc P).length := ⟨_, rfl⟩
  rw [← hL] at hel HE
  have HL : Hid (L = (esc P).length) := hL
  clear own2 hL
  refine Calls.mono HE.out ?_
  rintro e w3 ⟨rfl, hown3, bel3'⟩
  have bel3 : Below w0.heap.size w0 w3 := bel2.trans bel3'
  have hln3 : (Pf ++ [34] ++ esc P).length = l0 + 1 + L := by rw [List.length_append, hln2, HL.out]
  have ho3 := own_out hown3 hln3
  clear bel3' hown3 HE bel2 hln2
  go_wp2_with (first | (at_builtin; refine wpList_append_fits _ rfl (.tmp 58) (.tmp 59) 22 rfl w0.heap.size 5 i0 1 Try.underlying22 hi hz1 w0.heap.size (l0 + 1 + L) (l0 + 6 * l1 + l2 + 2) _ rfl (ho3.alloc _) ⟨w3.heap.size, 0, none⟩ 1 1 [.int .u8 34] rfl rfl (cells_new _ _ _) (ints_oneCell .u8 [34]) (by omega) ?_; intro w4 hown4 hgrow4; have bel4 := below_step bel3 bel3.size (Nat.le_refl _) hgrow4; have S4 := S2.out.later bel4 (Nat.le_refl _); have S5 : Hid _ := S4; clear S4) | (at_builtin; refine wpList_append_fits_any _ rfl (.tmp 63) (.tmp 64) 22 rfl w0.heap.size 5 i0 1 Try.underlying22 hi hz1 w0.heap.size (l0 + 1 + L + 1) (l0 + 6 * l1 + l2 + 2) _ rfl hown4 a2 l2 c2 (Tl.map (Value.int .u8)) rfl (map_len Tl l2 hl2) S5.out.2.1 S5.out.2.2 (ints_oneCell .u8 Tl) (by omega) ?_; intro w5 hown5 hgrow5))
  have own4 : Own w4 w0.heap.size (Pf ++ [34] ++ esc P ++ [34]) (l0 + 6 * l1 + l2 + 2) := own_step hln3 rfl hown4
  have hln4 : (Pf ++ [34] ++ esc P ++ [34]).length = l0 + 1 + L + 1 := by rw [List.length_append, hln3]; rfl
  have own5 : Own w5 w0.heap.size (Pf ++ [34] ++ esc P ++ [34] ++ Tl) (l0 + 6 * l1 + l2 + 2) := own_step hln4 hl2 (by rw [List.map_append]; exact hown5)
  have hln5 : (Pf ++ [34] ++ esc P ++ [34] ++ Tl).length = l0 + 1 + L + 1 + l2 := by rw [List.length_append, hln4, hl2]
  have bel5 : Below w0.heap.size w0 w5 := below_grown bel4 bel4.size (Nat.le_refl _) hgrow5
  have hsk := sk_text Pf P Tl l0 hl0 (mem_bt P HPr.out)
  rw [← HL.out] at hsk
  refine (zzskip_any w0.heap.size (l0 + 1 + L + 1 + l2) (l0 + 6 * l1 + l2 + 2) l0 (L + 1) _ w5 hln5 (by omega) (fun j hj => own_cell own5 j (by rw [hln5]; exact hj)) hsk).mono ?_
  rintro e w6 ⟨rfl, rfl⟩
  clear hsk own5 own4 hown4 hown5 hgrow4 hgrow5 ho3 hln3 hln4 hln5
  go_wp2_with fail
  go_ret
  exact ⟨ret_bool (beq_iff_eq.2 (by omega)), bel5⟩

set_option maxRecDepth 100000 in
set_option maxHeartbeats 4000000 in
/-- the law, the payload empty -/
theorem law_E (a0 : Option Addr) (l0 c0 : Nat) (Pf : List Int) (a1 : Option Addr) (c1 : Nat) (a2 : Option Addr) (l2 c2 : Nat) (Tl : List Int) (w : World) (s0 : Src w a0 l0 c0 Pf) (s2 : Src w a2 l2 c2 Tl)  (hcap : (l0 : Int) + (l2 : Int) ≤ 1048574) :
    Calls Try.prog 6 #[.slice a0 l0 c0, .slice a1 0 c1, .slice a2 l2 c2] w fun e w' => e = .returned (.bool true) ∧ Below w.heap.size w w' := by
  obtain ⟨i0, hi, hz0, hz1, hz2⟩ := info_parts info5
  have hmk : (Instr.makeSlice 22 (.int .i64 0) (.int .i64 ((l0 : Int) + (l2 : Int) + 2))).run Try.prog w = .ok (.slice (some ⟨w.heap.size, 0, none⟩) 0 (l0 + l2 + 2)) (w.alloc (.cells (row (List.replicate (l0 + l2 + 2) 0)) 5)) := make_row (l0 + l2 + 2) (by omega) w
  have own0 := own_new w (l0 + l2 + 2) (by omega)
  have bel0 : Below w.heap.size w (w.alloc (.cells (row (List.replicate (l0 + l2 + 2) 0)) 5)) := (Below.refl _ _).alloc (Nat.le_refl _) _
  have sz0 : (w.alloc (.cells (row (List.replicate (l0 + l2 + 2) 0)) 5)).heap.size = w.heap.size + 1 := by simp
  generalize hR : row (List.replicate (l0 + l2 + 2) 0) = RR at hmk own0 bel0 sz0
  clear hR
  have ho := nil_own _ _ _ own0
  have S0 : Hid (Src (w.alloc (.cells RR 5)) a0 l0 c0 Pf) := s0.later bel0 (Nat.le_refl _)
  have S2 : Hid (Src w a2 l2 c2 Tl) := s2
  have hl0 : Pf.length = l0 := s0.1
  have hl2 : Tl.length = l2 := s2.1
  clear s0 s2
  have hdec : decide ((1048576 : Int) < (l0 : Int) + (l2 : Int) + 2) = false := decide_eq_false (by omega)
  go_enter Try.func6, Try.ntmps6
  go_wp2_with fail
  refine (bytes_yes a0 _ a2 l0 c0 _ _ l2 c2 w (by omega)).mono ?_
  rintro e w0 ⟨rfl, hw0⟩
  subst hw0
  go_wp2_with (first | (at_builtin; refine wpList_append_fits_any _ rfl (.tmp 49) (.tmp 50) 22 rfl w0.heap.size 5 i0 1 Try.underlying22 hi hz1 w0.heap.size 0 (l0 + l2 + 2) _ rfl ho a0 l0 c0 (Pf.map (Value.int .u8)) rfl (map_len Pf l0 hl0) S0.out.2.1 S0.out.2.2 (ints_oneCell .u8 Pf) (by omega) ?_; intro w1 hown1 hgrow1; simp only [Nat.zero_add, List.nil_append] at hown1) | (at_builtin; refine wpList_append_fits _ rfl (.tmp 52) (.tmp 53) 22 rfl w0.heap.size 5 i0 1 Try.underlying22 hi hz1 w0.heap.size l0 (l0 + l2 + 2) _ rfl (hown1.alloc _) ⟨w1.heap.size, 0, none⟩ 1 1 [.int .u8 34] rfl rfl (cells_new _ _ _) (ints_oneCell .u8 [34]) (by omega) ?_; intro w2 hown2 hgrow2))
  have own2 : Own w2 w0.heap.size (Pf ++ [34]) (l0 + l2 + 2) := own_step hl0 rfl hown2
  have bel1 : Below w0.heap.size w0 w1 := below_grown bel0 bel0.size (Nat.le_refl _) hgrow1
  have bel2 : Below w0.heap.size w0 w2 := below_step bel1 bel1.size (Nat.le_refl _) hgrow2
  have hln2 : (Pf ++ [34]).length = l0 + 1 := by simp [hl0]
  clear ho own0 bel0 hown1 hgrow1 hown2 hgrow2 bel1 hmk S0
  refine (esc_empty w0.heap.size (l0 + 1) (l0 + l2 + 2) a1 c1 w2).mono ?_
  rintro e w3 ⟨rfl, hw3⟩
  subst hw3
  have hln3 : (Pf ++ [34] ++ esc []).length = l0 + 1 := by rw [esc, List.append_nil]; exact hln2
  have ho3 := own_out (show Own w3 w0.heap.size (Pf ++ [34] ++ esc []) (l0 + l2 + 2) by rw [esc, List.append_nil]; exact own2) hln3
  clear own2 hln2
  go_wp2_with (first | (at_builtin; refine wpList_append_fits _ rfl (.tmp 58) (.tmp 59) 22 rfl w0.heap.size 5 i0 1 Try.underlying22 hi hz1 w0.heap.size (l0 + 1) (l0 + l2 + 2) _ rfl (ho3.alloc _) ⟨w3.heap.size, 0, none⟩ 1 1 [.int .u8 34] rfl rfl (cells_new _ _ _) (ints_oneCell .u8 [34]) (by omega) ?_; intro w4 hown4 hgrow4; have bel4 := below_step bel2 bel2.size (Nat.le_refl _) hgrow4; have S4 := S2.out.later bel4 (Nat.le_refl _); have S5 : Hid _ := S4; clear S4) | (at_builtin; refine wpList_append_fits_any _ rfl (.tmp 63) (.tmp 64) 22 rfl w0.heap.size 5 i0 1 Try.underlying22 hi hz1 w0.heap.size (l0 + 1 + 1) (l0 + l2 + 2) _ rfl hown4 a2 l2 c2 (Tl.map (Value.int .u8)) rfl (map_len Tl l2 hl2) S5.out.2.1 S5.out.2.2 (ints_oneCell .u8 Tl) (by omega) ?_; intro w5 hown5 hgrow5))
  have own4 : Own w4 w0.heap.size (Pf ++ [34] ++ esc [] ++ [34]) (l0 + l2 + 2) := own_step hln3 rfl hown4
  have hln4 : (Pf ++ [34] ++ esc [] ++ [34]).length = l0 + 1 + 1 := by rw [List.length_append, hln3]; rfl
  have own5 : Own w5 w0.heap.size (Pf ++ [34] ++ esc [] ++ [34] ++ Tl) (l0 + l2 + 2) := own_step hln4 hl2 (by rw [List.map_append]; exact hown5)
  have hln5 : (Pf ++ [34] ++ esc [] ++ [34] ++ Tl).length = l0 + 1 + 1 + l2 := by rw [List.length_append, hln4, hl2]
  have bel5 : Below w0.heap.size w0 w5 := below_grown bel4 bel4.size (Nat.le_refl _) hgrow5
  have hsk := sk_text Pf [] Tl l0 hl0 (fun x hx => absurd hx (by simp))
  refine (zzskip_any w0.heap.size (l0 + 1 + 1 + l2) (l0 + l2 + 2) l0 1 _ w5 hln5 (by omega) (fun j hj => own_cell own5 j (by rw [hln5]; exact hj)) hsk).mono ?_
  rintro e w6 ⟨rfl, rfl⟩
  clear hsk own5 own4 hown4 hown5 hgrow4 hgrow5 ho3 hln3 hln4 hln5
  go_wp2_with fail
  go_ret
  exact ⟨rfl, bel5⟩

/-! ### THE WAYS ON WHICH THE LAW's OWN GUARDS ANSWER -/
set_option maxRecDepth 10000 in
set_option maxHeartbeats 400000 in
theorem bytes_no0 (a0 a1 a2 : Option Addr) (l0 c0 l1 c1 l2 c2 : Nat) (w : World) (m0 : (l0 : Int) ≤ 9223372036854775807) (m1 : (l1 : Int) ≤ 9223372036854775807) (m2 : (l2 : Int) ≤ 9223372036854775807)  (h : (1048576 : Int) < (l0 : Int)) :
    Calls Try.prog 14 #[.slice a0 l0 c0, .slice a1 l1 c1, .slice a2 l2 c2] w fun e w' => e = .returned (.bool false) ∧ w' = w := by
  go_enter Try.func14, Try.ntmps14
  go_wp2
  go_ret
  exact ⟨rfl, rfl⟩
set_option maxRecDepth 10000 in
set_option maxHeartbeats 400000 in
theorem bytes_no1 (a0 a1 a2 : Option Addr) (l0 c0 l1 c1 l2 c2 : Nat) (w : World) (m0 : (l0 : Int) ≤ 9223372036854775807) (m1 : (l1 : Int) ≤ 9223372036854775807) (m2 : (l2 : Int) ≤ 9223372036854775807) (n0 : (l0 : Int) ≤ 1048576) (h : (1048576 : Int) < (l1 : Int)) :
    Calls Try.prog 14 #[.slice a0 l0 c0, .slice a1 l1 c1, .slice a2 l2 c2] w fun e w' => e = .returned (.bool false) ∧ w' = w := by
  go_enter Try.func14, Try.ntmps14
  go_wp2
  go_ret
  exact ⟨rfl, rfl⟩
set_option maxRecDepth 10000 in
set_option maxHeartbeats 400000 in
theorem bytes_no2 (a0 a1 a2 : Option Addr) (l0 c0 l1 c1 l2 c2 : Nat) (w : World) (m0 : (l0 : Int) ≤ 9223372036854775807) (m1 : (l1 : Int) ≤ 9223372036854775807) (m2 : (l2 : Int) ≤ 9223372036854775807) (n0 : (l0 : Int) ≤ 1048576) (n1 : (l1 : Int) ≤ 1048576) (h : (1048576 : Int) < (l0 : Int) + (l1 : Int)) :
    Calls Try.prog 14 #[.slice a0 l0 c0, .slice a1 l1 c1, .slice a2 l2 c2] w fun e w' => e = .returned (.bool false) ∧ w' = w := by
  go_enter Try.func14, Try.ntmps14
  go_wp2
  go_ret
  exact ⟨rfl, rfl⟩
set_option maxRecDepth 10000 in
set_option maxHeartbeats 400000 in
theorem bytes_no3 (a0 a1 a2 : Option Addr) (l0 c0 l1 c1 l2 c2 : Nat) (w : World) (m0 : (l0 : Int) ≤ 9223372036854775807) (m1 : (l1 : Int) ≤ 9223372036854775807) (m2 : (l2 : Int) ≤ 9223372036854775807) (n0 : (l0 : Int) ≤ 1048576) (n1 : (l1 : Int) ≤ 1048576) (n2 : (l0 : Int) + (l1 : Int) ≤ 1048576) (h : (1048576 : Int) < (l2 : Int)) :
    Calls Try.prog 14 #[.slice a0 l0 c0, .slice a1 l1 c1, .slice a2 l2 c2] w fun e w' => e = .returned (.bool false) ∧ w' = w := by
  go_enter Try.func14, Try.ntmps14
  go_wp2
  go_ret
  exact ⟨rfl, rfl⟩
set_option maxRecDepth 10000 in
set_option maxHeartbeats 400000 in
theorem bytes_no4 (a0 a1 a2 : Option Addr) (l0 c0 l1 c1 l2 c2 : Nat) (w : World) (m0 : (l0 : Int) ≤ 9223372036854775807) (m1 : (l1 : Int) ≤ 9223372036854775807) (m2 : (l2 : Int) ≤ 9223372036854775807) (n0 : (l0 : Int) ≤ 1048576) (n1 : (l1 : Int) ≤ 1048576) (n2 : (l0 : Int) + (l1 : Int) ≤ 1048576) (n3 : (l2 : Int) ≤ 1048576) (h : (1048576 : Int) < (l0 : Int) + (l1 : Int) + (l2 : Int)) :
    Calls Try.prog 14 #[.slice a0 l0 c0, .slice a1 l1 c1, .slice a2 l2 c2] w fun e w' => e = .returned (.bool false) ∧ w' = w := by
  go_enter Try.func14, Try.ntmps14
  go_wp2
  go_ret
  exact ⟨rfl, rfl⟩
theorem bytes_no (a0 a1 a2 : Option Addr) (l0 c0 l1 c1 l2 c2 : Nat) (w : World) (m0 : (l0 : Int) ≤ 9223372036854775807) (m1 : (l1 : Int) ≤ 9223372036854775807) (m2 : (l2 : Int) ≤ 9223372036854775807) (h : (1048576 : Int) < (l0 : Int) + (l1 : Int) + (l2 : Int)) :
    Calls Try.prog 14 #[.slice a0 l0 c0, .slice a1 l1 c1, .slice a2 l2 c2] w fun e w' => e = .returned (.bool false) ∧ w' = w := by
  by_cases n0 : (1048576 : Int) < (l0 : Int)
  · exact bytes_no0 a0 a1 a2 l0 c0 l1 c1 l2 c2 w m0 m1 m2 n0
  by_cases n1 : (1048576 : Int) < (l1 : Int)
  · exact bytes_no1 a0 a1 a2 l0 c0 l1 c1 l2 c2 w m0 m1 m2 (by omega) n1
  by_cases n2 : (1048576 : Int) < (l0 : Int) + (l1 : Int)
  · exact bytes_no2 a0 a1 a2 l0 c0 l1 c1 l2 c2 w m0 m1 m2 (by omega) (by omega) n2
  by_cases n3 : (1048576 : Int) < (l2 : Int)
  · exact bytes_no3 a0 a1 a2 l0 c0 l1 c1 l2 c2 w m0 m1 m2 (by omega) (by omega) (by omega) n3
  · exact bytes_no4 a0 a1 a2 l0 c0 l1 c1 l2 c2 w m0 m1 m2 (by omega) (by omega) (by omega) (by omega) h
set_option maxRecDepth 100000 in
set_option maxHeartbeats 1000000 in
theorem big0 (a0 a1 a2 : Option Addr) (l0 c0 l1 c1 l2 c2 : Nat) (w : World) (m0 : (l0 : Int) ≤ 9223372036854775807) (m1 : (l1 : Int) ≤ 9223372036854775807) (m2 : (l2 : Int) ≤ 9223372036854775807) (h : (1048576 : Int) < (l0 : Int) + (l1 : Int) + (l2 : Int)) :
    Calls Try.prog 6 #[.slice a0 l0 c0, .slice a1 l1 c1, .slice a2 l2 c2] w fun e w' => e = .returned (.bool true) ∧ Below w.heap.size w w' := by
  have H : Hid _ := bytes_no a0 a1 a2 l0 c0 l1 c1 l2 c2 w m0 m1 m2 h
  clear m0 m1 m2 h
  go_enter Try.func6, Try.ntmps6
  go_wp2_with fail
  refine Calls.mono H.out ?_
  rintro e w' ⟨rfl, rfl⟩
  go_wp2_with fail
  go_ret
  exact ⟨rfl, Below.refl _ _⟩
set_option maxRecDepth 100000 in
set_option maxHeartbeats 1000000 in
theorem big1 (a0 a1 a2 : Option Addr) (l0 c0 l1 c1 l2 c2 : Nat) (w : World) (g : (l0 : Int) + (l1 : Int) + (l2 : Int) ≤ 1048576) (h : (131072 : Int) < (l1 : Int)) :
    Calls Try.prog 6 #[.slice a0 l0 c0, .slice a1 l1 c1, .slice a2 l2 c2] w fun e w' => e = .returned (.bool true) ∧ Below w.heap.size w w' := by
  go_enter Try.func6, Try.ntmps6
  go_wp2_with fail
  refine (bytes_yes a0 _ a2 l0 c0 _ _ l2 c2 w (by omega)).mono ?_
  rintro e w' ⟨rfl, rfl⟩
  go_wp2_with fail
  go_ret
  exact ⟨rfl, Below.refl _ _⟩
set_option maxRecDepth 100000 in
set_option maxHeartbeats 1000000 in
theorem big2 (a0 a1 a2 : Option Addr) (l0 c0 l1 c1 l2 c2 : Nat) (w : World) (g : (l0 : Int) + (l1 : Int) + (l2 : Int) ≤ 1048576) (h : (l1 : Int) ≤ 131072) (h2 : (1048576 : Int) < (l0 : Int) + 6 * (l1 : Int) + (l2 : Int) + 2) :
    Calls Try.prog 6 #[.slice a0 l0 c0, .slice a1 l1 c1, .slice a2 l2 c2] w fun e w' => e = .returned (.bool true) ∧ Below w.heap.size w w' := by
  go_enter Try.func6, Try.ntmps6
  go_wp2_with fail
  refine (bytes_yes a0 _ a2 l0 c0 _ _ l2 c2 w (by omega)).mono ?_
  rintro e w' ⟨rfl, rfl⟩
  go_wp2_with fail
  go_ret
  exact ⟨rfl, Below.refl _ _⟩
end Go.Proofs.Qxb6600795a.Walks
