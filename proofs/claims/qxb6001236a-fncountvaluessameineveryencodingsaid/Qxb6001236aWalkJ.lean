import Derived.Test.Qxb6001236aWalkF
import Derived.Test.Qxb6001236aWalkG
import Derived.Test.Qxb6001236aPlainD
import Derived.Laws.BitsAllLaws
import Derived.WalkSpells
import Derived.OwnWalk
namespace Go.Proofs.Qxb6001236a.WalksJ
open Go.RowKit Go.Proofs.Qxb6001236a.Plain Go.Proofs.Qxb6001236a.Walks Go.Sort
set_option linter.unusedVariables false

theorem and7 (x : Int) (h : 0 ≤ x ∧ x ≤ 255) : 0 ≤ bits .and .u8 x 127 ∧ bits .and .u8 x 127 ≤ 127 := by
  rw [u8_and x 127 h.1 (by omega) (by omega) (by omega)]
  have := Nat.and_le_right (n := x.toNat) (m := (127 : Int).toNat)
  omega
theorem set_range (xs : List Int) (k : Nat) (v : Int) (h : ∀ i, 0 ≤ bt xs i ∧ bt xs i ≤ 127) (hv : 0 ≤ v ∧ v ≤ 127) : ∀ i, 0 ≤ bt (xs.set k v) i ∧ bt (xs.set k v) i ≤ 127 := by
  intro i
  have := h i
  unfold bt at *
  rw [List.getD_eq_getElem?_getD, List.getElem?_set]
  rw [List.getD_eq_getElem?_getD] at this
  split
  · split
    · exact hv
    · simp
  · exact this

set_option maxHeartbeats 800000 in
/-- zzToASCIIB1, function 11, at a book -/
theorem ascii_row (b len cap : Nat) (ds : List Int) (w : World) (hB : Book w b len cap ds) (h2 : len ≤ 1048576) :
    Calls Try.prog 11 #[.slice (some ⟨b, 0, none⟩) len cap] w (fun e w' => ∃ A, Ascii A ∧ ClonePost w len A e w') := by
  have HB : Hid (Book w b len cap ds) := hB
  have hbw : b < w.heap.size := hB.2.2.2
  have hmk := make_row len len (Nat.le_refl _) (by omega) w
  clear hB
  go_enter Try.func11, Try.ntmps11
  go_wp2_with fail
  clear hmk
  go_loopw [4] (fun i wr => ∃ k : Nat, ∃ xs : List Int, i = .int .i64 k ∧ wr = w.alloc (.cells (row xs) 5) ∧ k ≤ len ∧ xs.length = len ∧ ∀ i, 0 ≤ bt xs i ∧ bt xs i ≤ 127) (fun i _ => len - (intOf i).toNat)
  case atStart => exact ⟨0, _, rfl, rfl, by omega, by simp, fun i => by simp [bt, List.getD_eq_getElem?_getD, List.getElem?_replicate]; split <;> simp⟩
  case round =>
    obtain ⟨k, xs, rfl, rfl, hk, hx, hd⟩ := hrel
    have hrs := row_size xs
    by_cases hlt : k < len
    · have hc1 : w.cell? ⟨b, k, none⟩ = some (.int .u8 (bt ds k)) := HB.out.1.2.2.1 k hlt
      have hg := row_get xs k (by omega)
      have HD : Hid (∀ i, 0 ≤ bt (xs.set k (bits .and .u8 (bt ds k) 127)) i ∧ bt (xs.set k (bits .and .u8 (bt ds k) 127)) i ≤ 127) := set_range xs k _ hd (and7 _ (HB.out.1.2.2.2 k))
      clear hd
      go_wp2_with fail
      go_roundw
      case rel => exact ⟨k + 1, _, by go_num, by rw [row_set], by omega, by simp [hx], HD.out⟩
      case measure => simp [intOf]; omega
    · have HD : Hid (∀ i, 0 ≤ bt xs i ∧ bt xs i ≤ 127) := hd
      clear hd
      go_wp2_with fail
      go_ret
      exact ⟨xs, HD.out, w.heap.size, rfl, book_new w xs len len xs hx (by omega) (Nat.le_refl _) hx (fun i _ => rfl) (fun i => by have := HD.out i; omega), Nat.le_refl _, (Below.refl _ _).alloc (Nat.le_refl _) _⟩

set_option maxHeartbeats 800000 in
/-- zzToASCIIB1, function 11, at an empty book -/
theorem ascii_empty (a : Option Addr) (cap : Nat) (w : World) :
    Calls Try.prog 11 #[.slice a 0 cap] w (fun e w' => ∃ A, Ascii A ∧ ClonePost w 0 A e w') := by
  have hmk : (Instr.makeSlice 22 (.int .i64 0) (.int .i64 0)).run Try.prog w = .ok (.slice (some ⟨w.heap.size, 0, none⟩) 0 0) (w.alloc (.cells (row []) 5)) := make_row 0 0 (Nat.le_refl _) (by omega) w
  go_enter Try.func11, Try.ntmps11
  go_wp2_with fail
  refine wp_loop_rounds 1 ?_
  rw [rounds_succ]
  go_wp2_with fail
  go_ret
  exact ⟨[], fun i => by rw [bt_nil]; omega, w.heap.size, rfl, book_new w [] 0 0 [] rfl (by omega) (Nat.le_refl _) rfl (fun i hi => absurd hi (by omega)) (fun i => by rw [bt_nil]; omega), Nat.le_refl _, (Below.refl _ _).alloc (Nat.le_refl _) _⟩

/-! ### a row of bytes that is appended to within its room -/
def Own (w : World) (J : Nat) (xs : List Int) (cap : Nat) : Prop := w.ownsRow J 5 1 (.slice (some ⟨J, 0, none⟩) xs.length cap) xs.length (xs.map (Value.int .u8))
theorem own_new (w : World) (cap : Nat) (hc : cap ≤ 4194304) : Own (w.alloc (.cells (row (List.replicate cap 0)) 5)) w.heap.size [] cap := by
  refine ⟨rfl, .inr ⟨w.heap.size, cap, row (List.replicate cap 0), rfl, Nat.le_refl _, heap_alloc_new w _, by simp, by unfold maxLen; omega, by simp [row_size], by simp⟩⟩
theorem own_lt {w : World} {J cap : Nat} {xs : List Int} (h : Own w J xs cap) : J < w.heap.size := by
  rcases h.2 with ⟨h, _⟩ | ⟨g, c', cur, h, _, hg, _⟩
  · simp at h
  · simp only [Value.slice.injEq, Option.some.injEq, Addr.mk.injEq, and_true, true_and] at h
    obtain ⟨rfl, _⟩ := h
    rcases Nat.lt_or_ge J w.heap.size with h' | h'
    · exact h'
    · rw [Array.getElem?_eq_none h'] at hg; cases hg
theorem own_book {w : World} {J cap : Nat} {xs : List Int} (h : Own w J xs cap) (hc : cap ≤ 4194304) (hx : xs.length ≤ cap) (hr : ∀ i, 0 ≤ bt xs i ∧ bt xs i ≤ 255) : Book w J xs.length cap xs := by
  refine ⟨⟨rfl, by omega, fun i hi => ?_, hr⟩, hx, by unfold maxLen; omega, own_lt h⟩
  rw [World.ownsRow.cellAt h i (by omega)]
  simp [bt, hi]
theorem own_out {w : World} {J cap n : Nat} {xs : List Int} (h : Own w J xs cap) (hn : xs.length = n) : w.ownsRow J 5 1 (.slice (some ⟨J, 0, none⟩) n cap) n (xs.map (Value.int .u8)) := by subst hn; exact h
theorem own_step {w' : World} {J cap n m : Nat} {xs news : List Int} (hn : xs.length = n) (hm : news.length = m) (h : w'.ownsRow J 5 1 (.slice (some ⟨J, 0, none⟩) (n + m) cap) (n + m) (xs.map (Value.int .u8) ++ news.map (Value.int .u8))) : Own w' J (xs ++ news) cap := by
  subst hn hm
  unfold Own
  rw [List.length_append, List.map_append]
  exact h
theorem below_step {B J : Nat} {a w w' : World} {o : Obj} (h : Below B a w) (hB : B ≤ w.heap.size) (hJ : B ≤ J) (hg : (w.alloc o).grownBy w' (some J)) : Below B a w' :=
  (h.alloc hB o).grown hg (by simp; omega) (fun k hk => by cases hk; exact hJ)
theorem cells_new (w : World) (vs : List Value) (t : TypeId) : ∀ j u, vs[j]? = some u → (w.alloc (.cells vs.toArray t)).cell? ((⟨w.heap.size, 0, none⟩ : Addr).add j) = some u := by
  intro j u hj
  have : (⟨w.heap.size, 0, none⟩ : Addr).add j = ⟨w.heap.size, j, none⟩ := by simp [Addr.add]; omega
  rw [this, World.cell?_alloc_at _ _ _ _ rfl]
  simpa using hj
theorem cells_new1 (w : World) (o : Obj) (vs : List Value) (t : TypeId) : ∀ j u, vs[j]? = some u → ((w.alloc o).alloc (.cells vs.toArray t)).cell? ((⟨w.heap.size + 1, 0, none⟩ : Addr).add j) = some u := by
  have := cells_new (w.alloc o) vs t
  rw [show (w.alloc o).heap.size = w.heap.size + 1 by simp] at this
  exact this
theorem take_succ_bt (A : List Int) (k : Nat) (h : k < A.length) : A.take k ++ [bt A k] = A.take (k + 1) := by
  rw [List.take_succ_eq_append_getElem h]
  simp [bt, h]
theorem nil_own (w : World) (J cap : Nat) (h : Own w J [] cap) : w.ownsRow J 5 1 (.slice (some ⟨J, 0, none⟩) 0 cap) 0 [] := h


set_option maxRecDepth 100000 in
set_option maxHeartbeats 2000000 in
/-- zzEncodeB1, function 13, at kind 1 -/
theorem encode1 (b len : Nat) (A : List Int) (w : World) (hB : Book w b len len A) (h2 : len ≤ 1048576) (hA : Ascii A) :
    Calls Try.prog 13 #[.slice (some ⟨b, 0, none⟩) len len, .int .i64 1] w (fun e w' => ∃ J, e = .returned (.slice (some ⟨J, 0, none⟩) (2 + 2 * len) (2 + 2 * len)) ∧ Book w' J (2 + 2 * len) (2 + 2 * len) (enc1 A) ∧ Below w.heap.size w w') := by
  obtain ⟨i0, hi, hz0, hz1, hz2⟩ := info_parts info5
  have HB : Hid (Book w b len len A) := hB
  have HA : Hid (Ascii A) := hA
  have hAl : A.length = len := hB.1.1
  have hbw : b < w.heap.size := hB.2.2.2
  clear hB hA
  have hmk : (Instr.makeSlice 22 (.int .i64 0) (.int .i64 (2 + 2 * (len : Int)))).run Try.prog w = .ok (.slice (some ⟨w.heap.size, 0, none⟩) 0 (2 + 2 * len)) (w.alloc (.cells (row (List.replicate (2 + 2 * len) 0)) 5)) := make_row 0 (2 + 2 * len) (by omega) (by omega) w
  have own0 := own_new w (2 + 2 * len) (by omega)
  have bel0 : Below w.heap.size w (w.alloc (.cells (row (List.replicate (2 + 2 * len) 0)) 5)) := (Below.refl _ _).alloc (Nat.le_refl _) _
  generalize hR : row (List.replicate (2 + 2 * len) 0) = RR at hmk own0 bel0
  clear hR
  have ho := nil_own _ _ _ own0
  go_enter Try.func13, Try.ntmps13
  go_wp2_with (at_builtin; refine wpList_append_fits _ rfl (.tmp 37) (.tmp 38) 22 rfl w.heap.size 5 i0 1 Try.underlying22 hi hz1 w.heap.size 0 (2 + 2 * len) _ rfl (ho.alloc _) ⟨w.heap.size + 1, 0, none⟩ 2 2 [.int .u8 255, .int .u8 254] rfl rfl (cells_new1 _ _ _ _) (ints_oneCell .u8 [255, 254]) (by omega) ?_; intro w3 hown3 hgrow3)
  have own1 : Own w3 w.heap.size ([] ++ [255, 254]) (2 + 2 * len) := own_step (n := 0) (m := 2) rfl rfl hown3
  have bel1 : Below w.heap.size w w3 := below_step bel0 bel0.size (Nat.le_refl _) hgrow3
  clear ho hown3 hgrow3 own0 bel0 hmk
  go_loopw [5, 6] (fun j i wr => ∃ k : Nat, j = .slice (some ⟨w.heap.size, 0, none⟩) (2 + 2 * k) (2 + 2 * len) ∧ i = .int .i64 k ∧ k ≤ len ∧ Own wr w.heap.size (255 :: 254 :: il0 (A.take k)) (2 + 2 * len) ∧ Below w.heap.size w wr) (fun _ i _ => len - (intOf i).toNat)
  case atStart => exact ⟨0, rfl, rfl, by omega, own1, bel1⟩
  case round =>
    obtain ⟨k, rfl, rfl, hk, hown, hbel⟩ := hrel
    clear own1 bel1
    have hlk : (255 :: 254 :: il0 (A.take k)).length = 2 + 2 * k := by simp [il0_len]; omega
    by_cases hlt : k < len
    · have hc1 : wr.cell? ⟨b, k, none⟩ = some (.int .u8 (bt A k)) := by rw [hbel.cell hbw]; exact HB.out.1.2.2.1 k hlt
      have ho := own_out hown hlk
      clear hown
      go_wp2_with (at_builtin; refine wpList_append_fits _ rfl (.tmp 46) (.tmp 51) 22 rfl w.heap.size 5 i0 1 Try.underlying22 hi hz1 w.heap.size (2 + 2 * k) (2 + 2 * len) _ rfl (ho.alloc _) ⟨wr.heap.size, 0, none⟩ 2 2 [.int .u8 (bt A k), .int .u8 0] rfl rfl (cells_new _ _ _) (ints_oneCell .u8 [bt A k, 0]) (by omega) ?_; intro w4 hown4 hgrow4)
      have R : Hid (Own w4 w.heap.size (255 :: 254 :: il0 (A.take (k + 1))) (2 + 2 * len) ∧ Below w.heap.size w w4) := by
        refine ⟨?_, below_step hbel hbel.size (Nat.le_refl _) hgrow4⟩
        have := own_step (news := [bt A k, 0]) hlk rfl hown4
        have e : il0 (A.take k) ++ [bt A k, 0] = il0 (A.take (k + 1)) := by rw [← take_succ_bt A k (by omega), il0_app]; rfl
        simp only [List.cons_append] at this
        rw [e] at this
        exact this
      clear ho hown4 hgrow4
      go_roundw
      case rel => exact ⟨k + 1, by rw [show 2 + 2 * k + 2 = 2 + 2 * (k + 1) by omega], by go_num, by omega, R.out.1, R.out.2⟩
      case measure => simp [intOf]; omega
    · have eT : A.take k = A := List.take_of_length_le (by omega)
      have hkl : k = len := by omega
      rw [eT] at hown hlk
      have hJ := own_book hown (by omega) (by rw [hlk]; omega) (enc1_range A HA.out)
      rw [hlk] at hJ
      have HJ : Hid (Book wr w.heap.size (2 + 2 * k) (2 + 2 * len) (enc1 A)) := hJ
      have HK : Hid (k = len) := hkl
      clear hJ hown hlk eT hkl
      go_wp2_with fail
      go_ret
      refine ⟨w.heap.size, ?_, ?_, hbel⟩
      · rw [← HK.out]; rfl
      · have := HJ.out; rw [← HK.out] at this ⊢; exact this

set_option maxRecDepth 100000 in
set_option maxHeartbeats 2000000 in
/-- zzEncodeB1, function 13, at kind 2 -/
theorem encode2 (b len : Nat) (A : List Int) (w : World) (hB : Book w b len len A) (h2 : len ≤ 1048576) (hA : Ascii A) :
    Calls Try.prog 13 #[.slice (some ⟨b, 0, none⟩) len len, .int .i64 2] w (fun e w' => ∃ J, e = .returned (.slice (some ⟨J, 0, none⟩) (2 + 2 * len) (2 + 2 * len)) ∧ Book w' J (2 + 2 * len) (2 + 2 * len) (enc2 A) ∧ Below w.heap.size w w') := by
  obtain ⟨i0, hi, hz0, hz1, hz2⟩ := info_parts info5
  have HB : Hid (Book w b len len A) := hB
  have HA : Hid (Ascii A) := hA
  have hAl : A.length = len := hB.1.1
  have hbw : b < w.heap.size := hB.2.2.2
  clear hB hA
  have hmk : (Instr.makeSlice 22 (.int .i64 0) (.int .i64 (2 + 2 * (len : Int)))).run Try.prog w = .ok (.slice (some ⟨w.heap.size, 0, none⟩) 0 (2 + 2 * len)) (w.alloc (.cells (row (List.replicate (2 + 2 * len) 0)) 5)) := make_row 0 (2 + 2 * len) (by omega) (by omega) w
  have own0 := own_new w (2 + 2 * len) (by omega)
  have bel0 : Below w.heap.size w (w.alloc (.cells (row (List.replicate (2 + 2 * len) 0)) 5)) := (Below.refl _ _).alloc (Nat.le_refl _) _
  generalize hR : row (List.replicate (2 + 2 * len) 0) = RR at hmk own0 bel0
  clear hR
  have ho := nil_own _ _ _ own0
  go_enter Try.func13, Try.ntmps13
  go_wp2_with (at_builtin; refine wpList_append_fits _ rfl (.tmp 60) (.tmp 61) 22 rfl w.heap.size 5 i0 1 Try.underlying22 hi hz1 w.heap.size 0 (2 + 2 * len) _ rfl (ho.alloc _) ⟨w.heap.size + 1, 0, none⟩ 2 2 [.int .u8 254, .int .u8 255] rfl rfl (cells_new1 _ _ _ _) (ints_oneCell .u8 [254, 255]) (by omega) ?_; intro w3 hown3 hgrow3)
  have own1 : Own w3 w.heap.size ([] ++ [254, 255]) (2 + 2 * len) := own_step (n := 0) (m := 2) rfl rfl hown3
  have bel1 : Below w.heap.size w w3 := below_step bel0 bel0.size (Nat.le_refl _) hgrow3
  clear ho hown3 hgrow3 own0 bel0 hmk
  go_loopw [5, 7] (fun j i wr => ∃ k : Nat, j = .slice (some ⟨w.heap.size, 0, none⟩) (2 + 2 * k) (2 + 2 * len) ∧ i = .int .i64 k ∧ k ≤ len ∧ Own wr w.heap.size (254 :: 255 :: il1 (A.take k)) (2 + 2 * len) ∧ Below w.heap.size w wr) (fun _ i _ => len - (intOf i).toNat)
  case atStart => exact ⟨0, rfl, rfl, by omega, own1, bel1⟩
  case round =>
    obtain ⟨k, rfl, rfl, hk, hown, hbel⟩ := hrel
    clear own1 bel1
    have hlk : (254 :: 255 :: il1 (A.take k)).length = 2 + 2 * k := by simp [il1_len]; omega
    by_cases hlt : k < len
    · have hc1 : wr.cell? ⟨b, k, none⟩ = some (.int .u8 (bt A k)) := by rw [hbel.cell hbw]; exact HB.out.1.2.2.1 k hlt
      have ho := own_out hown hlk
      clear hown
      go_wp2_with (at_builtin; refine wpList_append_fits _ rfl (.tmp 69) (.tmp 74) 22 rfl w.heap.size 5 i0 1 Try.underlying22 hi hz1 w.heap.size (2 + 2 * k) (2 + 2 * len) _ rfl (ho.alloc _) ⟨wr.heap.size, 0, none⟩ 2 2 [.int .u8 0, .int .u8 (bt A k)] rfl rfl (cells_new _ _ _) (ints_oneCell .u8 [0, bt A k]) (by omega) ?_; intro w4 hown4 hgrow4)
      have R : Hid (Own w4 w.heap.size (254 :: 255 :: il1 (A.take (k + 1))) (2 + 2 * len) ∧ Below w.heap.size w w4) := by
        refine ⟨?_, below_step hbel hbel.size (Nat.le_refl _) hgrow4⟩
        have := own_step (news := [0, bt A k]) hlk rfl hown4
        have e : il1 (A.take k) ++ [0, bt A k] = il1 (A.take (k + 1)) := by rw [← take_succ_bt A k (by omega), il1_app]; rfl
        simp only [List.cons_append] at this
        rw [e] at this
        exact this
      clear ho hown4 hgrow4
      go_roundw
      case rel => exact ⟨k + 1, by rw [show 2 + 2 * k + 2 = 2 + 2 * (k + 1) by omega], by go_num, by omega, R.out.1, R.out.2⟩
      case measure => simp [intOf]; omega
    · have eT : A.take k = A := List.take_of_length_le (by omega)
      have hkl : k = len := by omega
      rw [eT] at hown hlk
      have hJ := own_book hown (by omega) (by rw [hlk]; omega) (enc2_range A HA.out)
      rw [hlk] at hJ
      have HJ : Hid (Book wr w.heap.size (2 + 2 * k) (2 + 2 * len) (enc2 A)) := hJ
      have HK : Hid (k = len) := hkl
      clear hJ hown hlk eT hkl
      go_wp2_with fail
      go_ret
      refine ⟨w.heap.size, ?_, ?_, hbel⟩
      · rw [← HK.out]; rfl
      · have := HJ.out; rw [← HK.out] at this ⊢; exact this

set_option maxRecDepth 100000 in
set_option maxHeartbeats 2000000 in
/-- zzEncodeB1, function 13, at kind 3 -/
theorem encode3 (b len : Nat) (A : List Int) (w : World) (hB : Book w b len len A) (h2 : len ≤ 1048576) (hA : Ascii A) :
    Calls Try.prog 13 #[.slice (some ⟨b, 0, none⟩) len len, .int .i64 3] w (fun e w' => ∃ J, e = .returned (.slice (some ⟨J, 0, none⟩) (3 + len) (3 + len)) ∧ Book w' J (3 + len) (3 + len) (enc3 A) ∧ Below w.heap.size w w') := by
  obtain ⟨i0, hi, hz0, hz1, hz2⟩ := info_parts info5
  have HB : Hid (Book w b len len A) := hB
  have HA : Hid (Ascii A) := hA
  have hAl : A.length = len := hB.1.1
  have hbw : b < w.heap.size := hB.2.2.2
  clear hB hA
  have hmk : (Instr.makeSlice 22 (.int .i64 0) (.int .i64 (3 + (len : Int)))).run Try.prog w = .ok (.slice (some ⟨w.heap.size, 0, none⟩) 0 (3 + len)) (w.alloc (.cells (row (List.replicate (3 + len) 0)) 5)) := make_row 0 (3 + len) (by omega) (by omega) w
  have own0 := own_new w (3 + len) (by omega)
  have bel0 : Below w.heap.size w (w.alloc (.cells (row (List.replicate (3 + len) 0)) 5)) := (Below.refl _ _).alloc (Nat.le_refl _) _
  generalize hR : row (List.replicate (3 + len) 0) = RR at hmk own0 bel0
  clear hR
  have ho := nil_own _ _ _ own0
  go_enter Try.func13, Try.ntmps13
  go_wp2_with (at_builtin; refine wpList_append_fits _ rfl (.tmp 14) (.tmp 15) 22 rfl w.heap.size 5 i0 1 Try.underlying22 hi hz1 w.heap.size 0 (3 + len) _ rfl (ho.alloc _) ⟨w.heap.size + 1, 0, none⟩ 3 3 [.int .u8 239, .int .u8 187, .int .u8 191] rfl rfl (cells_new1 _ _ _ _) (ints_oneCell .u8 [239, 187, 191]) (by omega) ?_; intro w3 hown3 hgrow3)
  have own1 : Own w3 w.heap.size ([] ++ [239, 187, 191]) (3 + len) := own_step (n := 0) (m := 3) rfl rfl hown3
  have bel1 : Below w.heap.size w w3 := below_step bel0 bel0.size (Nat.le_refl _) hgrow3
  clear ho hown3 hgrow3 own0 bel0 hmk
  go_loopw [5, 8] (fun j i wr => ∃ k : Nat, j = .slice (some ⟨w.heap.size, 0, none⟩) (3 + k) (3 + len) ∧ i = .int .i64 k ∧ k ≤ len ∧ Own wr w.heap.size (239 :: 187 :: 191 :: A.take k) (3 + len) ∧ Below w.heap.size w wr) (fun _ i _ => len - (intOf i).toNat)
  case atStart => exact ⟨0, rfl, rfl, by omega, own1, bel1⟩
  case round =>
    obtain ⟨k, rfl, rfl, hk, hown, hbel⟩ := hrel
    clear own1 bel1
    have hlk : (239 :: 187 :: 191 :: A.take k).length = 3 + k := by simp; omega
    by_cases hlt : k < len
    · have hc1 : wr.cell? ⟨b, k, none⟩ = some (.int .u8 (bt A k)) := by rw [hbel.cell hbw]; exact HB.out.1.2.2.1 k hlt
      have ho := own_out hown hlk
      clear hown
      go_wp2_with (at_builtin; refine wpList_append_fits _ rfl (.tmp 23) (.tmp 28) 22 rfl w.heap.size 5 i0 1 Try.underlying22 hi hz1 w.heap.size (3 + k) (3 + len) _ rfl (ho.alloc _) ⟨wr.heap.size, 0, none⟩ 1 1 [.int .u8 (bt A k)] rfl rfl (cells_new _ _ _) (ints_oneCell .u8 [bt A k]) (by omega) ?_; intro w4 hown4 hgrow4)
      have R : Hid (Own w4 w.heap.size (239 :: 187 :: 191 :: A.take (k + 1)) (3 + len) ∧ Below w.heap.size w w4) := by
        refine ⟨?_, below_step hbel hbel.size (Nat.le_refl _) hgrow4⟩
        have := own_step (news := [bt A k]) hlk rfl hown4
        have e : A.take k ++ [bt A k] = A.take (k + 1) := by rw [← take_succ_bt A k (by omega)]
        simp only [List.cons_append] at this
        rw [e] at this
        exact this
      clear ho hown4 hgrow4
      go_roundw
      case rel => exact ⟨k + 1, by rw [show 3 + k + 1 = 3 + (k + 1) by omega], by go_num, by omega, R.out.1, R.out.2⟩
      case measure => simp [intOf]; omega
    · have eT : A.take k = A := List.take_of_length_le (by omega)
      have hkl : k = len := by omega
      rw [eT] at hown hlk
      have hJ := own_book hown (by omega) (by rw [hlk]; omega) (enc3_range A HA.out)
      rw [hlk] at hJ
      have HJ : Hid (Book wr w.heap.size (3 + k) (3 + len) (enc3 A)) := hJ
      have HK : Hid (k = len) := hkl
      clear hJ hown hlk eT hkl
      go_wp2_with fail
      go_ret
      refine ⟨w.heap.size, ?_, ?_, hbel⟩
      · rw [← HK.out]; rfl
      · have := HJ.out; rw [← HK.out] at this ⊢; exact this
end Go.Proofs.Qxb6001236a.WalksJ
