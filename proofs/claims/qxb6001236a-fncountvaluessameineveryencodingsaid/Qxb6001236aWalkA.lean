import Derived.Test.Qxb6001236aChecked
import Derived.Test.Qxb6001236aPlain
import Derived.WalkKit
import Derived.ProofKit
import Derived.BigQuiet
import Derived.Lib.QuietBelow
namespace Go.Proofs.Qxb6001236a.Walks
open Go.RowKit Go.Proofs.Qxb6001236a.Plain Go.Sort

theorem ret_int {k : IntKind} {a b : Int} (h : a = b) : Ending.returned (.int k a) = .returned (.int k b) := by rw [h]

theorem len_any (a : Option Addr) (len cap st sz lo : Nat) (hs : sz = 1 ∨ sz = 2) (h1 : st ≤ len) (h2 : len ≤ 4194304) (w : World) :
    Calls Try.prog 26 #[.agg #[.slice a len cap, .int .i64 st, .int .i64 sz, .int .i64 lo]] w fun e w' => e = .returned (.int .i64 (uN len st sz)) ∧ Below w.heap.size w w' := by
  rcases hs with rfl | rfl
  · go_enter Try.func26, Try.ntmps26
    go_wp2
    go_ret
    exact ⟨ret_int (by unfold uN; omega), (Below.refl _ _).alloc (Nat.le_refl _) _⟩
  · go_enter Try.func26, Try.ntmps26
    go_wp2
    go_ret
    exact ⟨ret_int (by unfold uN; omega), (Below.refl _ _).alloc (Nat.le_refl _) _⟩

theorem offset_any (a : Option Addr) (len cap st sz lo i : Nat) (hs : sz = 1 ∨ sz = 2) (h1 : st ≤ 3) (h2 : lo ≤ 1) (hi : i ≤ 4194304) (w : World) :
    Calls Try.prog 29 #[.agg #[.slice a len cap, .int .i64 st, .int .i64 sz, .int .i64 lo], .int .i64 i] w fun e w' => e = .returned (.int .i64 (st + i * sz + lo : Nat)) ∧ Below w.heap.size w w' := by
  rcases hs with rfl | rfl
  · go_enter Try.func29, Try.ntmps29
    go_wp2
    go_ret
    exact ⟨ret_int (by omega), (Below.refl _ _).alloc (Nat.le_refl _) _⟩
  · go_enter Try.func29, Try.ntmps29
    go_wp2
    go_ret
    exact ⟨ret_int (by omega), (Below.refl _ _).alloc (Nat.le_refl _) _⟩

/-! ### ascii, function 27 -/
/-- what the walk is told of the book: its bytes lie at the head of block b -/
def Bk (w : World) (b len : Nat) (ds : List Int) : Prop := ds.length = len ∧ len ≤ 4194304 ∧ (∀ i, i < len → w.cell? ⟨b, i, none⟩ = some (.int .u8 (bt ds i))) ∧ ∀ i, 0 ≤ bt ds i ∧ bt ds i ≤ 255

theorem ascii_past (a : Option Addr) (len cap st sz lo i : Nat) (hs : sz = 1 ∨ sz = 2) (h1 : st ≤ len) (h2 : len ≤ 4194304) (hi : uN len st sz ≤ i) (w : World) :
    Calls Try.prog 27 #[.agg #[.slice a len cap, .int .i64 st, .int .i64 sz, .int .i64 lo], .int .i64 i] w fun e w' => e = .returned (.int .u8 128) ∧ Below w.heap.size w w' := by
  go_enter Try.func27, Try.ntmps27
  go_wp2_with fail
  refine (len_any a len cap st sz lo hs h1 h2 _).mono ?_
  rintro e w' ⟨rfl, hb⟩
  go_wp2_with fail
  go_ret
  refine ⟨rfl, ?_⟩
  exact ((Below.refl _ _).alloc (Nat.le_refl _) _).trans (hb.mono (by simp))

theorem mixed : Try.prog.follows .mixedOrders = true := by kernel_rfl

/-- the four cells of the boxed struct, and the book's, in a world behind it -/
theorem box_cells {w w' : World} {x0 x1 x2 x3 : Value} (hb : Below (w.alloc (.cells #[x0, x1, x2, x3] 34)).heap.size (w.alloc (.cells #[x0, x1, x2, x3] 34)) w') :
    w'.cell? ⟨w.heap.size, 0, none⟩ = some x0 ∧ w'.cell? ⟨w.heap.size, 1, none⟩ = some x1 ∧ w'.cell? ⟨w.heap.size, 2, none⟩ = some x2 ∧ w'.cell? ⟨w.heap.size, 3, none⟩ = some x3 := by
  refine ⟨?_, ?_, ?_, ?_⟩
  all_goals rw [hb.cell (by simp)]; rw [World.cell?_alloc_at _ _ _ _ rfl]; rfl
theorem old_cell {w w' : World} {o : Obj} (hb : Below (w.alloc o).heap.size (w.alloc o) w') {b i : Nat} {v : Value} (hbw : b < w.heap.size) (h : w.cell? ⟨b, i, none⟩ = some v) : w'.cell? ⟨b, i, none⟩ = some v := by
  rw [hb.cell (by simp; omega), World.cell?_alloc_past _ _ _ hbw]; exact h


theorem kept_cell {w w' : World} (hb : Below w.heap.size w w') {a : Addr} {v : Value} (h : w.cell? a = some v) : w'.cell? a = some v := by
  rw [hb.cell (block_lt_of_cell h)]; exact h
theorem below_box {w w' w2 : World} {o : Obj} (hb : Below (w.alloc o).heap.size (w.alloc o) w') (hb2 : Below w'.heap.size w' w2) : Below w.heap.size w w2 := by
  have h0 : Below w.heap.size w (w.alloc o) := (Below.refl _ _).alloc (Nat.le_refl _) _
  exact h0.trans ((hb.mono h0.size).trans (hb2.mono (Nat.le_trans h0.size hb.size)))
theorem off_all (a : Option Addr) (len cap st sz lo i off : Nat) (hs : sz = 1 ∨ sz = 2) (h1 : st ≤ 3) (h2 : lo ≤ 1) (hi : i ≤ 4194304) (ho : st + i * sz + lo = off) (w : World) :
    ∀ d os, Calls Try.prog 29 #[.agg #[.slice a len cap, .int .i64 st, .int .i64 sz, .int .i64 lo], .int .i64 i] (grow (redrawn w d) os) fun e w'' => e = .returned (.int .i64 (off : Int)) ∧ ∃ p : Regrown, w'' = grow (redrawn w p.d) p.os :=
  fun d os => by have := Calls.regrown_of (offset_any a len cap st sz lo i hs h1 h2 hi (grow (redrawn w d) os)); rw [ho] at this; exact this
end Go.Proofs.Qxb6001236a.Walks
