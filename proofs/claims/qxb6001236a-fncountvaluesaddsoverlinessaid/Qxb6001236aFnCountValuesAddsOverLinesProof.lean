/-
  THE SHELL OF A PROOF OF 'Rows.FnCountValuesAddsOverLinesSaid' ('example.com/vestline/vestline/zzlaws_pkg_book_b1.FnCountValuesAddsOverLines'), WRITTEN BY PROGRAM (proof-skeleton.mjs, third state) off the guide's own print for that function. Not trusted: Lean checks it.
  THE WALK IS FILLED IN BY THE SEAT'S PROVER; ALL ELSE IS THE GUIDE's OWN WAY at this function's number and types.
-/
import Derived.Test.Qxb6001236aRows
import Derived.Test.Qxb6001236aWalkH
import Derived.Test.Qxb6001236aView
import Derived.WalkKit
import Derived.ProofKit
import Derived.OpenShut
import Derived.ShutString
import Derived.ChangeOld
import Derived.Below
namespace Go.Proofs.Qxb6001236a.fnCountValuesAddsOverLines
open Go.ChangeShapes Go.WideShapes Go.ChangeAt Go.RowKit
open Go.ChangeMaps (open_string shut_string)
open Go.Proofs.Qxb6001236a.Plain Go.Proofs.Qxb6001236a.Walks
set_option linter.unusedVariables false

theorem own : ownKnob Try.prog.godebug = none := by kernel_rfl
theorem laidOut : laidOutB Try.prog = true := by kernel_rfl

/-- WHAT THE WALK IS TOLD OF A SLICE OF INTEGERS THAT CAME IN: it is nil; or it leads to a row of 'cap' cells, the numbers 'zs' (the first 'len' are its elements, the rest its spare room), each fitting its kind. -/
def IsRow (k : IntKind) (w : World) (a : Option Addr) (len cap : Nat) (zs : List Int) : Prop :=
  (a = none ∧ len = 0 ∧ cap = 0 ∧ zs = []) ∨
  ∃ x, a = some x ∧ len ≤ cap ∧ cap ≤ maxLen ∧ zs.length = cap ∧ (∀ i, i < zs.length → w.cell? (x.add i) = some (.int k (zs.getD i 0))) ∧ ∀ n ∈ zs, (Lit.int k n).wf = true

/-! ### THE WAYS ON WHICH THE LAW's OWN GUARDS ANSWER -/
set_option maxRecDepth 100000 in
set_option maxHeartbeats 1000000 in
theorem big0 (a0 a1 : Option Addr) (l0 c0 l1 c1 : Nat) (w : World) (m0 : l0 ≤ 9223372036854775807) (m1 : l1 ≤ 9223372036854775807)  (h : 1048576 < l0) :
    Calls Try.prog 5 #[.slice a0 l0 c0, .slice a1 l1 c1] w fun e w' => e = .returned (.bool true) ∧ Below w.heap.size w w' := by
  go_enter Try.func5, Try.ntmps5
  go_wp2
  go_ret
  exact ⟨rfl, Below.refl _ _⟩
set_option maxRecDepth 100000 in
set_option maxHeartbeats 1000000 in
theorem big1 (a0 a1 : Option Addr) (l0 c0 l1 c1 : Nat) (w : World) (m0 : l0 ≤ 9223372036854775807) (m1 : l1 ≤ 9223372036854775807) (n0 : ¬ 1048576 < l0) (h : 1048576 < l1) :
    Calls Try.prog 5 #[.slice a0 l0 c0, .slice a1 l1 c1] w fun e w' => e = .returned (.bool true) ∧ Below w.heap.size w w' := by
  go_enter Try.func5, Try.ntmps5
  go_wp2
  go_ret
  exact ⟨rfl, Below.refl _ _⟩
set_option maxRecDepth 100000 in
set_option maxHeartbeats 1000000 in
theorem big2 (a0 a1 : Option Addr) (l0 c0 l1 c1 : Nat) (w : World) (m0 : l0 ≤ 9223372036854775807) (m1 : l1 ≤ 9223372036854775807) (n0 : ¬ 1048576 < l0) (n1 : ¬ 1048576 < l1) (h : 1048576 < l0 + l1) :
    Calls Try.prog 5 #[.slice a0 l0 c0, .slice a1 l1 c1] w fun e w' => e = .returned (.bool true) ∧ Below w.heap.size w w' := by
  go_enter Try.func5, Try.ntmps5
  go_wp2
  go_ret
  exact ⟨rfl, Below.refl _ _⟩
set_option maxRecDepth 100000 in
set_option maxHeartbeats 1000000 in
theorem big3 (a0 a1 : Option Addr) (l0 c0 l1 c1 : Nat) (w : World) (m0 : l0 ≤ 9223372036854775807) (m1 : l1 ≤ 9223372036854775807) (n0 : ¬ 1048576 < l0) (n1 : ¬ 1048576 < l1) (n2 : ¬ 1048576 < l0 + l1) (h : 524288 < l0) :
    Calls Try.prog 5 #[.slice a0 l0 c0, .slice a1 l1 c1] w fun e w' => e = .returned (.bool true) ∧ Below w.heap.size w w' := by
  go_enter Try.func5, Try.ntmps5
  go_wp2
  go_ret
  exact ⟨rfl, Below.refl _ _⟩
set_option maxRecDepth 100000 in
set_option maxHeartbeats 1000000 in
theorem big4 (a0 a1 : Option Addr) (l0 c0 l1 c1 : Nat) (w : World) (m0 : l0 ≤ 9223372036854775807) (m1 : l1 ≤ 9223372036854775807) (n0 : ¬ 1048576 < l0) (n1 : ¬ 1048576 < l1) (n2 : ¬ 1048576 < l0 + l1) (n3 : ¬ 524288 < l0) (h : 524288 < l1) :
    Calls Try.prog 5 #[.slice a0 l0 c0, .slice a1 l1 c1] w fun e w' => e = .returned (.bool true) ∧ Below w.heap.size w w' := by
  go_enter Try.func5, Try.ntmps5
  go_wp2
  go_ret
  exact ⟨rfl, Below.refl _ _⟩
set_option maxRecDepth 100000 in
set_option maxHeartbeats 1000000 in
theorem mark_a (b o l0 c0 : Nat) (a1 : Option Addr) (l1 c1 : Nat) (v : Int) (w : World) (m0 : l0 ≤ 524288) (m1 : l1 ≤ 524288) (p : 0 < l0) (hc : w.cell? ⟨b, o, none⟩ = some (.int .u8 v)) (h : 128 ≤ v) :
    Calls Try.prog 5 #[.slice (some ⟨b, o, none⟩) l0 c0, .slice a1 l1 c1] w fun e w' => e = .returned (.bool true) ∧ Below w.heap.size w w' := by
  go_enter Try.func5, Try.ntmps5
  go_wp2
  go_ret
  exact ⟨rfl, Below.refl _ _⟩
set_option maxRecDepth 100000 in
set_option maxHeartbeats 1000000 in
theorem mark_b0 (a0 : Option Addr) (c0 b1 o1 l1 c1 : Nat) (v1 : Int) (w : World) (m1 : l1 ≤ 524288) (p1 : 0 < l1) (hc1 : w.cell? ⟨b1, o1, none⟩ = some (.int .u8 v1)) (h : 128 ≤ v1) :
    Calls Try.prog 5 #[.slice a0 0 c0, .slice (some ⟨b1, o1, none⟩) l1 c1] w fun e w' => e = .returned (.bool true) ∧ Below w.heap.size w w' := by
  go_enter Try.func5, Try.ntmps5
  go_wp2
  go_ret
  exact ⟨rfl, Below.refl _ _⟩
set_option maxRecDepth 100000 in
set_option maxHeartbeats 1000000 in
theorem mark_b1 (b o l0 c0 b1 o1 l1 c1 : Nat) (v v1 : Int) (w : World) (m0 : l0 ≤ 524288) (m1 : l1 ≤ 524288) (p : 0 < l0) (hc : w.cell? ⟨b, o, none⟩ = some (.int .u8 v)) (hv : v < 128) (p1 : 0 < l1) (hc1 : w.cell? ⟨b1, o1, none⟩ = some (.int .u8 v1)) (h : 128 ≤ v1) :
    Calls Try.prog 5 #[.slice (some ⟨b, o, none⟩) l0 c0, .slice (some ⟨b1, o1, none⟩) l1 c1] w fun e w' => e = .returned (.bool true) ∧ Below w.heap.size w w' := by
  go_enter Try.func5, Try.ntmps5
  go_wp2
  go_ret
  exact ⟨rfl, Below.refl _ _⟩
set_option maxRecDepth 100000 in
set_option maxHeartbeats 1000000 in
theorem cr_0 (b o l0 c0 : Nat) (a1 : Option Addr) (c1 : Nat) (v u : Int) (w : World) (m0 : l0 ≤ 524288) (p : 0 < l0) (hc : w.cell? ⟨b, o, none⟩ = some (.int .u8 v)) (hv : v < 128) (hc2 : w.cell? ⟨b, o + (l0 - 1), none⟩ = some (.int .u8 u)) (h : (u == 13) = true) :
    Calls Try.prog 5 #[.slice (some ⟨b, o, none⟩) l0 c0, .slice a1 0 c1] w fun e w' => e = .returned (.bool true) ∧ Below w.heap.size w w' := by
  go_enter Try.func5, Try.ntmps5
  go_wp2
  go_ret
  exact ⟨rfl, Below.refl _ _⟩
set_option maxRecDepth 100000 in
set_option maxHeartbeats 1000000 in
theorem cr_1 (b o l0 c0 b1 o1 l1 c1 : Nat) (v v1 u : Int) (w : World) (m0 : l0 ≤ 524288) (m1 : l1 ≤ 524288) (p : 0 < l0) (hc : w.cell? ⟨b, o, none⟩ = some (.int .u8 v)) (hv : v < 128) (p1 : 0 < l1) (hc1 : w.cell? ⟨b1, o1, none⟩ = some (.int .u8 v1)) (hv1 : v1 < 128) (hc2 : w.cell? ⟨b, o + (l0 - 1), none⟩ = some (.int .u8 u)) (h : (u == 13) = true) :
    Calls Try.prog 5 #[.slice (some ⟨b, o, none⟩) l0 c0, .slice (some ⟨b1, o1, none⟩) l1 c1] w fun e w' => e = .returned (.bool true) ∧ Below w.heap.size w w' := by
  go_enter Try.func5, Try.ntmps5
  go_wp2
  go_ret
  exact ⟨rfl, Below.refl _ _⟩

/-! ### STEP 1: THE WALK: the Go text returns true, AND WRITES NOTHING THAT WAS THERE: 'Below w.heap.size w w'' (Derived/Below.lean: '.refl', '.alloc', '.drew', '.setCell' at a new block, '.trans'). Open each 'IsRow' by 'rcases' AHEAD of 'go_enter'; part every test ahead of the walk. -/
theorem walk (a0 : Option Addr) (len0 cap0 : Nat) (z0 : List Int) (a1 : Option Addr) (len1 cap1 : Nat) (z1 : List Int) (w : World) (w0 : IsRow .u8 w a0 len0 cap0 z0) (w1 : IsRow .u8 w a1 len1 cap1 z1) :
    Calls Try.prog 5 #[.slice a0 len0 cap0, .slice a1 len1 cap1] w fun e w' => e = .returned (.bool true) ∧ Below w.heap.size w w' := by
  have q0 : len0 ≤ 9223372036854775807 := by
    rcases w0 with ⟨_, h, _⟩ | ⟨_, _, h, h', _⟩
    · omega
    · unfold maxLen at h'; omega
  have q1 : len1 ≤ 9223372036854775807 := by
    rcases w1 with ⟨_, h, _⟩ | ⟨_, _, h, h', _⟩
    · omega
    · unfold maxLen at h'; omega
  by_cases n0 : 1048576 < len0
  · exact big0 a0 a1 len0 cap0 len1 cap1 w q0 q1 n0
  by_cases n1 : 1048576 < len1
  · exact big1 a0 a1 len0 cap0 len1 cap1 w q0 q1 n0 n1
  by_cases n2 : 1048576 < len0 + len1
  · exact big2 a0 a1 len0 cap0 len1 cap1 w q0 q1 n0 n1 n2
  by_cases n3 : 524288 < len0
  · exact big3 a0 a1 len0 cap0 len1 cap1 w q0 q1 n0 n1 n2 n3
  by_cases n4 : 524288 < len1
  · exact big4 a0 a1 len0 cap0 len1 cap1 w q0 q1 n0 n1 n2 n3 n4
  rcases view w0 with rfl | ⟨b, o, A, rfl, p, hl, hc, hr⟩
  · rcases view w1 with rfl | ⟨b1, o1, Bs, rfl, p1, hl1, hc1, hr1⟩
    · exact adds_EE a0 cap0 a1 cap1 w
    · by_cases g2 : 128 ≤ bt Bs 0
      · exact mark_b0 a0 cap0 b1 o1 len1 cap1 _ w (by omega) p1 (by have := hc1 0 p1; rwa [Nat.add_zero] at this) g2
      · exact adds_ER a0 cap0 b1 o1 len1 cap1 Bs w p1 hl1 (by omega) hc1 hr1 (by omega)
  · by_cases g1 : 128 ≤ bt A 0
    · exact mark_a b o len0 cap0 a1 len1 cap1 _ w (by omega) (by omega) p (by have := hc 0 p; rwa [Nat.add_zero] at this) g1
    · rcases view w1 with rfl | ⟨b1, o1, Bs, rfl, p1, hl1, hc1, hr1⟩
      · by_cases g3 : bt A (len0 - 1) = 13
        · exact cr_0 b o len0 cap0 a1 cap1 _ _ w (by omega) p (by have := hc 0 p; rwa [Nat.add_zero] at this) (by omega) (hc (len0 - 1) (by omega)) (beq_iff_eq.2 g3)
        · exact adds_RE b o len0 cap0 A a1 cap1 w p hl (by omega) hc hr (by omega) g3
      · by_cases g2 : 128 ≤ bt Bs 0
        · exact mark_b1 b o len0 cap0 b1 o1 len1 cap1 _ _ w (by omega) (by omega) p (by have := hc 0 p; rwa [Nat.add_zero] at this) (by omega) p1 (by have := hc1 0 p1; rwa [Nat.add_zero] at this) g2
        · by_cases g3 : bt A (len0 - 1) = 13
          · exact cr_1 b o len0 cap0 b1 o1 len1 cap1 _ _ _ w (by omega) (by omega) p (by have := hc 0 p; rwa [Nat.add_zero] at this) (by omega) p1 (by have := hc1 0 p1; rwa [Nat.add_zero] at this) (by omega) (hc (len0 - 1) (by omega)) (beq_iff_eq.2 g3)
          · exact adds_RR b o len0 cap0 A b1 o1 len1 cap1 Bs w p hl (by omega) hc hr p1 hl1 (by omega) hc1 hr1 (by omega) g3 (by omega)

/-! ### THE ROW's STEP: WRITTEN OUT: LEAVE IT -/
set_option maxRecDepth 100000 in
theorem lifted (os : Os) (started : os.Started) (H : Type) (enc : TypeId × Value → H) :
    ReturnsInHanded {} Try.checked os 5 .any (Rows.fnCountValuesAddsOverLinesSpec.pre6 enc Try.prog Try.f5 Rows.fnCountValuesAddsOverLinesRow.domain false) (Rows.fnCountValuesAddsOverLinesSpec.post enc Try.prog Try.f5 false true false false) := by
  refine returnsInHanded_of_change (C := Try.checked) own started (by kernel_rfl) Try.func5
    (ChangeSpec.witness6 (enc := enc) (C := Try.checked) false ⟨#[], #[.slice none 0 0, .slice none 0 0], []⟩ 8 (by kernel_rfl) (by kernel_rfl) (by kernel_rfl) (by kernel_rfl)) ?_
  intro W base args ds gs before hval0 hW hcnd _
  have hval : ∀ (j : Nat) t v, Try.f5.params[j]? = some t → args[j]? = some v → Value.okWide Try.prog W .any base t v := hval0
  have hW' := hW
  obtain ⟨p, q, hA0, hV, rfl, hfz, hnd⟩ := hW
  have hA : DataW.TrodAll enc Try.prog W 0 (fun _ => true) true Try.f5.params.toList args.toList ds p := hA0
  rw [Try.params5] at hA hval
  obtain ⟨v0, vs0, d0, ds0, p0, q0, hargs, rfl, rfl, h0, r0⟩ := trodAll_cons hA
  obtain ⟨v1, vs1, d1, ds1, p1, q1, rfl, rfl, rfl, h1, r1⟩ := trodAll_cons r0
  obtain ⟨rfl, rfl, rfl⟩ := trodAll_nil r1
  obtain rfl : args = #[v0, v1] := by cases args; simp_all
  obtain ⟨rfl, rfl⟩ := trodVars_none hV
  obtain ⟨a0, len0, cap0, rfl⟩ := okWide_slice Try.underlying22 (hval 0 22 v0 rfl rfl)
  have k0 := h0
  have lt0 : ∀ x ∈ p0, x.block < W.heap.size := by obtain ⟨m, hm⟩ := k0; exact DataW.trod_lt m _ _ _ hm
  obtain ⟨z0, w0⟩ : ∃ zs, IsRow .u8 W a0 len0 cap0 zs := by
    obtain ⟨fuel, hf⟩ := h0
    rcases open_ints Try.underlying22 Try.underlying5 (by kernel_rfl) hf with ⟨hcs, _⟩ | ⟨x, l, c, zs, hcs, _, hl, hm, hz, _, hcell, hwz⟩
    · simp [Value.cells] at hcs
      obtain ⟨rfl, rfl, rfl⟩ := hcs
      exact ⟨[], .inl ⟨rfl, rfl, rfl, rfl⟩⟩
    · simp [Value.cells] at hcs
      obtain ⟨rfl, rfl, rfl⟩ := hcs
      exact ⟨zs, .inr ⟨_, rfl, hl, hm, by simpa using hz, hcell, hwz⟩⟩
  obtain ⟨a1, len1, cap1, rfl⟩ := okWide_slice Try.underlying22 (hval 1 22 v1 rfl rfl)
  have k1 := h1
  have lt1 : ∀ x ∈ p1, x.block < W.heap.size := by obtain ⟨m, hm⟩ := k1; exact DataW.trod_lt m _ _ _ hm
  obtain ⟨z1, w1⟩ : ∃ zs, IsRow .u8 W a1 len1 cap1 zs := by
    obtain ⟨fuel, hf⟩ := h1
    rcases open_ints Try.underlying22 Try.underlying5 (by kernel_rfl) hf with ⟨hcs, _⟩ | ⟨x, l, c, zs, hcs, _, hl, hm, hz, _, hcell, hwz⟩
    · simp [Value.cells] at hcs
      obtain ⟨rfl, rfl, rfl⟩ := hcs
      exact ⟨[], .inl ⟨rfl, rfl, rfl, rfl⟩⟩
    · simp [Value.cells] at hcs
      obtain ⟨rfl, rfl, rfl⟩ := hcs
      exact ⟨zs, .inr ⟨_, rfl, hl, hm, by simpa using hz, hcell, hwz⟩⟩
  clear hA0 hval0
  refine (walk a0 len0 cap0 z0 a1 len1 cap1 z1 W w0 w1).mono fun e W' ⟨he, bel⟩ => ?_
  subst he
  exact ⟨_, rfl, _, _, _, [], _, [], hW', trodAll_mk1 (shut_bool Try.underlying4 _), (trodAll_cons_mk (Below.trod laidOut (by kernel_rfl) (of_decide_eq_true (by kernel_rfl)) k0 bel lt0) (trodAll_cons_mk (Below.trod laidOut (by kernel_rfl) (of_decide_eq_true (by kernel_rfl)) k1 bel lt1) trodAll_mk0)), rfl, bel.frame _, fun h => by cases h⟩

theorem over : Rows.fnCountValuesAddsOverLinesRow.holds Try.pinned (OpenSpec.ofChange Rows.fnCountValuesAddsOverLinesSpec) :=
  OpenClaim.holds_of_wide 5 Try.f5 rfl rfl rfl rfl rfl rfl rfl ⟨rfl, rfl, rfl, rfl, rfl⟩ rfl rfl rfl rfl rfl (by kernel_rfl) Try.func5 (by kernel_rfl)
    (of_decide_eq_true (by kernel_rfl)) (by unfold Func.isWrapper; first | (rw [if_pos (by decide +kernel)]; kernel_rfl) | (rw [if_neg (by decide +kernel)]; exact ⟨rfl, rfl⟩))
    (fun os started H enc _ => lifted os started H enc)

/-- ████ THE STATEMENT ████ -/
theorem proved : Rows.FnCountValuesAddsOverLinesSaid := over
end Go.Proofs.Qxb6001236a.fnCountValuesAddsOverLines
