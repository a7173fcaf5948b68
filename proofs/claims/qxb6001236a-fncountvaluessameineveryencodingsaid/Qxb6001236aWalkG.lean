import Derived.Test.Qxb6001236aWalkC
import Derived.Lib.SliceRun
import Derived.Laws.MakeOwn
import Derived.Laws.OwnMore
namespace Go.Proofs.Qxb6001236a.Walks
open Go.RowKit Go.Proofs.Qxb6001236a.Plain Go.Sort
set_option linter.unusedVariables false

theorem info5 : (Try.prog.info? 5).map (fun i => (i.zero, i.size, i.bytes)) = some (some (.int .u8 0), 1, 1) := by kernel_rfl
/-- a row of bytes as a block's cells -/
def row (xs : List Int) : Array Value := (xs.map (Value.int .u8)).toArray
theorem row_size (xs : List Int) : (row xs).size = xs.length := by simp [row]
theorem row_set (xs : List Int) (k : Nat) (v : Int) : (row xs).setIfInBounds k (.int .u8 v) = row (xs.set k v) := by simp [row]
theorem row_get (xs : List Int) (k : Nat) (h : k < xs.length) : (row xs)[k]? = some (.int .u8 (bt xs k)) := by simp [row, bt, h]

/-- 'make([]byte, n, m)' -/
theorem make_row (n m : Nat) (hnm : n ≤ m) (hm : m ≤ 4194304) (w : World) : (Instr.makeSlice 22 (.int .i64 n) (.int .i64 m)).run Try.prog w = .ok (.slice (some ⟨w.heap.size, 0, none⟩) n m) (w.alloc (.cells (row (List.replicate m 0)) 5)) := by
  obtain ⟨i0, hi, hz0, hz1, hz2⟩ := info_parts info5
  rw [run_make (P := Try.prog) w 22 5 i0 (.int .u8 0) Try.underlying22 hi hz0 .i64 .i64 n m (by omega) (by omega) (by rw [hz2]; omega) (by omega), hz1]
  have e : madeCells (Value.int .u8 0).cells ((m : Int).toNat * 1) = row (List.replicate m 0) := by
    apply Array.toList_inj.1
    have : (Value.int .u8 0).cells = #[Value.int .u8 0] := rfl
    rw [this, toList_madeCells_one]
    simp [row]
  rw [e]; rfl

/-- a book that the call itself has laid -/
theorem book_new (w : World) (ds : List Int) (len cap : Nat) (xs : List Int) (hl : ds.length = len) (h2 : cap ≤ 4194304) (hc : len ≤ cap) (hx : xs.length = cap) (hd : ∀ i, i < len → bt xs i = bt ds i) (hr : ∀ i, 0 ≤ bt ds i ∧ bt ds i ≤ 255) :
    Book (w.alloc (.cells (row xs) 5)) w.heap.size len cap ds := by
  refine ⟨⟨hl, by omega, fun i hi => ?_, hr⟩, hc, by unfold maxLen; omega, by simp⟩
  rw [World.cell?_alloc_at _ _ _ _ rfl, row_get xs i (by omega), hd i hi]

/-- what zzCloneB1 leaves of a book that is not empty -/
def ClonePost (w : World) (len : Nat) (ds : List Int) (e : Ending) (w' : World) : Prop :=
  ∃ B, e = .returned (.slice (some ⟨B, 0, none⟩) len len) ∧ Book w' B len len ds ∧ w.heap.size ≤ B ∧ Below w.heap.size w w'

theorem take_set (ds xs : List Int) (k : Nat) (len : Nat) (hx : xs.length = len) (hk : k < len) (h : ∀ i, i < k → bt xs i = bt ds i) : (xs.set k (bt ds k)).length = len ∧ ∀ i, i < k + 1 → bt (xs.set k (bt ds k)) i = bt ds i := by
  refine ⟨by simp [hx], fun i hi => ?_⟩
  by_cases e : k = i
  · subst e; show (xs.set k (bt ds k)).getD k 0 = _; simp [hx, hk]
  · have := h i (by omega)
    rw [← this]
    show (xs.set k (bt ds k)).getD i 0 = xs.getD i 0
    rw [List.getD_eq_getElem?_getD, List.getD_eq_getElem?_getD, List.getElem?_set_ne e]

set_option maxHeartbeats 800000 in
/-- zzCloneB1, function 10, at a book that is not empty -/
theorem clone_row (b o len cap : Nat) (ds : List Int) (w : World) (h0 : 0 < len) (hl : ds.length = len) (h2 : len ≤ 1048576) (hcell : ∀ i, i < len → w.cell? ⟨b, o + i, none⟩ = some (.int .u8 (bt ds i))) (hr : ∀ i, 0 ≤ bt ds i ∧ bt ds i ≤ 255) :
    Calls Try.prog 10 #[.slice (some ⟨b, o, none⟩) len cap] w (ClonePost w len ds) := by
  have hbw : b < w.heap.size := block_lt_of_cell (hcell 0 h0)
  have HC : Hid (∀ i, i < len → w.cell? ⟨b, o + i, none⟩ = some (.int .u8 (bt ds i))) := hcell
  have HR : Hid (∀ i, 0 ≤ bt ds i ∧ bt ds i ≤ 255) := hr
  have hnil := Lib.run_eql_slice_nil (P := Try.prog) w 22 5 (some ⟨b, o, none⟩) len cap 0 0 Try.underlying22
  have hmk := make_row len len (Nat.le_refl _) (by omega) w
  clear hcell hr
  go_enter Try.func10, Try.ntmps10
  go_wp2_with fail
  clear hnil hmk
  go_loopw [4] (fun i wr => ∃ k : Nat, ∃ xs : List Int, i = .int .i64 k ∧ wr = w.alloc (.cells (row xs) 5) ∧ k ≤ len ∧ xs.length = len ∧ ∀ i, i < k → bt xs i = bt ds i) (fun i _ => len - (intOf i).toNat)
  case atStart => exact ⟨0, _, rfl, rfl, by omega, by simp, fun i hi => absurd hi (by omega)⟩
  case round =>
    obtain ⟨k, xs, rfl, rfl, hk, hx, hd⟩ := hrel
    have hrs := row_size xs
    by_cases hlt : k < len
    · have hc1 : w.cell? ⟨b, o + k, none⟩ = some (.int .u8 (bt ds k)) := HC.out k hlt
      have R : Hid _ := take_set ds xs k len hx hlt hd
      have hg := row_get xs k (by omega)
      clear hd
      go_wp2_with fail
      go_roundw
      case rel => exact ⟨k + 1, _, by go_num, by rw [row_set], by omega, R.out.1, R.out.2⟩
      case measure => simp [intOf]; omega
    · have hkl : k = len := by omega
      have HD : Hid (∀ i, i < len → bt xs i = bt ds i) := by rw [← hkl]; exact hd
      clear hd hkl
      go_wp2_with fail
      go_ret
      exact ⟨w.heap.size, rfl, book_new w ds len len xs hl (by omega) (Nat.le_refl _) hx HD.out HR.out, Nat.le_refl _, (Below.refl _ _).alloc (Nat.le_refl _) _⟩

set_option maxHeartbeats 800000 in
/-- zzCloneB1, function 10, at an empty book, nil or not -/
theorem clone_empty (a : Option Addr) (cap : Nat) (w : World) :
    Calls Try.prog 10 #[.slice a 0 cap] w fun e w' => ∃ a' : Option Addr, e = .returned (.slice a' 0 0) ∧ Below w.heap.size w w' := by
  have hnil := Lib.run_eql_slice_nil (P := Try.prog) w 22 5 a 0 cap 0 0 Try.underlying22
  have hmk : (Instr.makeSlice 22 (.int .i64 0) (.int .i64 0)).run Try.prog w = .ok (.slice (some ⟨w.heap.size, 0, none⟩) 0 0) (w.alloc (.cells (row []) 5)) := make_row 0 0 (Nat.le_refl _) (by omega) w
  cases a with
  | none =>
    go_enter Try.func10, Try.ntmps10
    go_wp2_with fail
    go_ret
    exact ⟨none, rfl, Below.refl _ _⟩
  | some x =>
    go_enter Try.func10, Try.ntmps10
    go_wp2_with fail
    refine wp_loop_rounds 1 ?_
    rw [rounds_succ]
    go_wp2_with fail
    go_ret
    exact ⟨_, rfl, (Below.refl _ _).alloc (Nat.le_refl _) _⟩
end Go.Proofs.Qxb6001236a.Walks
