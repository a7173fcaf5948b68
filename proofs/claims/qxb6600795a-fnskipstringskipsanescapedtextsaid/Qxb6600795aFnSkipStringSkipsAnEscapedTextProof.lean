/-
  THE SHELL OF A PROOF OF 'Rows.FnSkipStringSkipsAnEscapedTextSaid' ('example.com/braidway/braidway/zzlaws_pkg_token_b1.FnSkipStringSkipsAnEscapedText'), WRITTEN BY PROGRAM (proof-skeleton.mjs, third state) off the guide's own print for that function. Not trusted: Lean checks it.
  THE WALK IS FILLED IN BY THE SEAT'S PROVER; ALL ELSE IS THE GUIDE's OWN WAY at this function's number and types.
-/
import Derived.Test.Qxb6600795aRows
import Derived.Test.Qxb6600795aWalkB
import Derived.WalkKit
import Derived.ProofKit
import Derived.OpenShut
import Derived.ShutString
import Derived.ChangeOld
import Derived.Below
namespace Go.Proofs.Qxb6600795a.fnSkipStringSkipsAnEscapedText
open Go.ChangeShapes Go.WideShapes Go.ChangeAt Go.RowKit
open Go.ChangeMaps (open_string shut_string)
open Go.Proofs.Qxb6600795a.Plain Go.Proofs.Qxb6600795a.Walks
set_option linter.unusedVariables false

theorem own : ownKnob Try.prog.godebug = none := by kernel_rfl
theorem laidOut : laidOutB Try.prog = true := by kernel_rfl

/-- WHAT THE WALK IS TOLD OF A SLICE OF INTEGERS THAT CAME IN: it is nil; or it leads to a row of 'cap' cells, the numbers 'zs' (the first 'len' are its elements, the rest its spare room), each fitting its kind. -/
def IsRow (k : IntKind) (w : World) (a : Option Addr) (len cap : Nat) (zs : List Int) : Prop :=
  (a = none ∧ len = 0 ∧ cap = 0 ∧ zs = []) ∨
  ∃ x, a = some x ∧ len ≤ cap ∧ cap ≤ maxLen ∧ zs.length = cap ∧ (∀ i, i < zs.length → w.cell? (x.add i) = some (.int k (zs.getD i 0))) ∧ ∀ n ∈ zs, (Lit.int k n).wf = true

/-- a slice of bytes that came in, as an append reads it -/
theorem src {w : World} {a : Option Addr} {len cap : Nat} {zs : List Int} (h : IsRow .u8 w a len cap zs) : ∃ ds, Src w a len cap ds := by
  rcases h with ⟨rfl, rfl, rfl, rfl⟩ | ⟨x, rfl, h1, h2, h3, h4, h5⟩
  · exact ⟨[], rfl, fun _ => ⟨rfl, rfl⟩, fun ad ha => (by cases ha)⟩
  · refine ⟨zs.take len, by simp; omega, fun ha => (by cases ha), fun ad ha j u hj => ?_⟩
    cases ha
    have hjl : j < len := by
      rcases Nat.lt_or_ge j len with g | g
      · exact g
      · rw [List.getElem?_eq_none (by simp; omega)] at hj; cases hj
    rw [h4 j (by omega)]
    rw [List.getElem?_map, List.getElem?_take_of_lt hjl, List.getElem?_eq_getElem (show j < zs.length by omega)] at hj
    simp at hj
    subst hj
    simp [List.getElem?_eq_getElem (show j < zs.length by omega)]
/-- its elements' cells -/
theorem view {w : World} {a : Option Addr} {len cap : Nat} {zs : List Int} (h : IsRow .u8 w a len cap zs) :
    len = 0 ∨ ∃ b o ds, a = some ⟨b, o, none⟩ ∧ 0 < len ∧ List.length ds = len ∧ (∀ i, i < len → w.cell? ⟨b, o + i, none⟩ = some (.int .u8 (bt ds i))) ∧ ∀ i, 0 ≤ bt ds i ∧ bt ds i ≤ 255 := by
  rcases h with ⟨_, h, _, _⟩ | ⟨x, rfl, h1, h2, h3, h4, h5⟩
  · exact .inl h
  · rcases Nat.eq_zero_or_pos len with h0 | h0
    · exact .inl h0
    · right
      obtain ⟨b, o, rfl, hc⟩ := ints_at h4 (by omega)
      refine ⟨b, o, zs.take len, rfl, h0, by simp; omega, fun i hi => ?_, fun i => ?_⟩
      · rw [hc i (by omega)]
        simp [bt, List.getD_eq_getElem?_getD, hi]
      · by_cases hi : i < (zs.take len).length
        · have e : bt (zs.take len) i = (zs.take len)[i] := by simp [bt, List.getD_eq_getElem?_getD, List.getElem?_eq_getElem hi]
          rw [e]
          exact bounds_u8 (h5 _ (List.mem_of_mem_take (List.getElem_mem hi)))
        · have e : bt (zs.take len) i = 0 := by simp [bt, List.getD_eq_getElem?_getD, List.getElem?_eq_none (Nat.le_of_not_lt hi)]
          rw [e]; omega
theorem len_le {w : World} {a : Option Addr} {len cap : Nat} {zs : List Int} (h : IsRow .u8 w a len cap zs) : (len : Int) ≤ 9223372036854775807 := by
  rcases h with ⟨_, h, _⟩ | ⟨_, _, h, h', _⟩
  · omega
  · unfold maxLen at h'; omega

/-! ### STEP 1: THE WALK: the Go text returns true, AND WRITES NOTHING THAT WAS THERE: 'Below w.heap.size w w'' (Derived/Below.lean: '.refl', '.alloc', '.drew', '.setCell' at a new block, '.trans'). Open each 'IsRow' by 'rcases' AHEAD of 'go_enter'; part every test ahead of the walk. -/
theorem walk (a0 : Option Addr) (len0 cap0 : Nat) (z0 : List Int) (a1 : Option Addr) (len1 cap1 : Nat) (z1 : List Int) (a2 : Option Addr) (len2 cap2 : Nat) (z2 : List Int) (w : World) (w0 : IsRow .u8 w a0 len0 cap0 z0) (w1 : IsRow .u8 w a1 len1 cap1 z1) (w2 : IsRow .u8 w a2 len2 cap2 z2) :
    Calls Try.prog 6 #[.slice a0 len0 cap0, .slice a1 len1 cap1, .slice a2 len2 cap2] w fun e w' => e = .returned (.bool true) ∧ Below w.heap.size w w' := by
  have m0 := len_le w0
  have m1 := len_le w1
  have m2 := len_le w2
  by_cases n0 : (1048576 : Int) < (len0 : Int) + (len1 : Int) + (len2 : Int)
  · exact big0 a0 a1 a2 len0 cap0 len1 cap1 len2 cap2 w m0 m1 m2 n0
  by_cases n1 : (131072 : Int) < (len1 : Int)
  · exact big1 a0 a1 a2 len0 cap0 len1 cap1 len2 cap2 w (by omega) n1
  by_cases n2 : (1048576 : Int) < (len0 : Int) + 6 * (len1 : Int) + (len2 : Int) + 2
  · exact big2 a0 a1 a2 len0 cap0 len1 cap1 len2 cap2 w (by omega) (by omega) n2
  obtain ⟨Pf, s0⟩ := src w0
  obtain ⟨Tl, s2⟩ := src w2
  rcases view w1 with rfl | ⟨b, o, P, rfl, p, hl, hc, hr⟩
  · exact law_E a0 len0 cap0 Pf a1 cap1 a2 len2 cap2 Tl w s0 s2 (by omega)
  · exact law_R a0 len0 cap0 Pf b o len1 cap1 P a2 len2 cap2 Tl w s0 s2 p hl hc hr (by omega) (by omega)

/-! ### THE ROW's STEP: WRITTEN OUT: LEAVE IT -/
set_option maxRecDepth 100000 in
theorem lifted (os : Os) (started : os.Started) (H : Type) (enc : TypeId × Value → H) :
    ReturnsInHanded {} Try.checked os 6 .any (Rows.fnSkipStringSkipsAnEscapedTextSpec.pre6 enc Try.prog Try.f6 Rows.fnSkipStringSkipsAnEscapedTextRow.domain false) (Rows.fnSkipStringSkipsAnEscapedTextSpec.post enc Try.prog Try.f6 false true false false) := by
  refine returnsInHanded_of_change (C := Try.checked) own started (by kernel_rfl) Try.func6
    (ChangeSpec.witness6 (enc := enc) (C := Try.checked) false ⟨#[], #[.slice none 0 0, .slice none 0 0, .slice none 0 0], []⟩ 8 (by kernel_rfl) (by kernel_rfl) (by kernel_rfl) (by kernel_rfl)) ?_
  intro W base args ds gs before hval0 hW hcnd _
  have hval : ∀ (j : Nat) t v, Try.f6.params[j]? = some t → args[j]? = some v → Value.okWide Try.prog W .any base t v := hval0
  have hW' := hW
  obtain ⟨p, q, hA0, hV, rfl, hfz, hnd⟩ := hW
  have hA : DataW.TrodAll enc Try.prog W 0 (fun _ => true) true Try.f6.params.toList args.toList ds p := hA0
  rw [Try.params6] at hA hval
  obtain ⟨v0, vs0, d0, ds0, p0, q0, hargs, rfl, rfl, h0, r0⟩ := trodAll_cons hA
  obtain ⟨v1, vs1, d1, ds1, p1, q1, rfl, rfl, rfl, h1, r1⟩ := trodAll_cons r0
  obtain ⟨v2, vs2, d2, ds2, p2, q2, rfl, rfl, rfl, h2, r2⟩ := trodAll_cons r1
  obtain ⟨rfl, rfl, rfl⟩ := trodAll_nil r2
  obtain rfl : args = #[v0, v1, v2] := by cases args; simp_all
  obtain ⟨rfl, rfl⟩ := trodVars_none hV
  obtain ⟨a0, len0, cap0, rfl⟩ := okWide_slice Try.underlying22 (hval 0 22 v0 rfl rfl)
  have k0 := h0
  have lt0 : ∀ x ∈ p0, x.block < W.heap.size := by obtain ⟨m, hm⟩ := k0; exact DataW.trod_lt m _ _ _ hm
  obtain ⟨z0, w0⟩ : ∃ zs, IsRow .u8 W a0 len0 cap0 zs := by
    obtain ⟨fuel, hf⟩ := h0
    rcases open_ints Try.underlying22 Try.underlying5 (by kernel_rfl) hf with ⟨hcs, _⟩ | ⟨x, l, c, zs, hcs, _, hl, hm, hz, _, hcell, hwz⟩
    · simp [Value.cells] at hcs
      obtain ⟨rfl, rfl, rfl⟩ := hcs
      exact ⟨[], .inl ⟨rfl, rfl, rfl, rfl⟩⟩
    · simp [Value.cells] at hcs
      obtain ⟨rfl, rfl, rfl⟩ := hcs
      exact ⟨zs, .inr ⟨_, rfl, hl, hm, by simpa using hz, hcell, hwz⟩⟩
  obtain ⟨a1, len1, cap1, rfl⟩ := okWide_slice Try.underlying22 (hval 1 22 v1 rfl rfl)
  have k1 := h1
  have lt1 : ∀ x ∈ p1, x.block < W.heap.size := by obtain ⟨m, hm⟩ := k1; exact DataW.trod_lt m _ _ _ hm
  obtain ⟨z1, w1⟩ : ∃ zs, IsRow .u8 W a1 len1 cap1 zs := by
    obtain ⟨fuel, hf⟩ := h1
    rcases open_ints Try.underlying22 Try.underlying5 (by kernel_rfl) hf with ⟨hcs, _⟩ | ⟨x, l, c, zs, hcs, _, hl, hm, hz, _, hcell, hwz⟩
    · simp [Value.cells] at hcs
      obtain ⟨rfl, rfl, rfl⟩ := hcs
      exact ⟨[], .inl ⟨rfl, rfl, rfl, rfl⟩⟩
    · simp [Value.cells] at hcs
      obtain ⟨rfl, rfl, rfl⟩ := hcs
      exact ⟨zs, .inr ⟨_, rfl, hl, hm, by simpa using hz, hcell, hwz⟩⟩
  obtain ⟨a2, len2, cap2, rfl⟩ := okWide_slice Try.underlying22 (hval 2 22 v2 rfl rfl)
  have k2 := h2
  have lt2 : ∀ x ∈ p2, x.block < W.heap.size := by obtain ⟨m, hm⟩ := k2; exact DataW.trod_lt m _ _ _ hm
  obtain ⟨z2, w2⟩ : ∃ zs, IsRow .u8 W a2 len2 cap2 zs := by
    obtain ⟨fuel, hf⟩ := h2
    rcases open_ints Try.underlying22 Try.underlying5 (by kernel_rfl) hf with ⟨hcs, _⟩ | ⟨x, l, c, zs, hcs, _, hl, hm, hz, _, hcell, hwz⟩
    · simp [Value.cells] at hcs
      obtain ⟨rfl, rfl, rfl⟩ := hcs
      exact ⟨[], .inl ⟨rfl, rfl, rfl, rfl⟩⟩
    · simp [Value.cells] at hcs
      obtain ⟨rfl, rfl, rfl⟩ := hcs
      exact ⟨zs, .inr ⟨_, rfl, hl, hm, by simpa using hz, hcell, hwz⟩⟩
  clear hA0 hval0
  refine (walk a0 len0 cap0 z0 a1 len1 cap1 z1 a2 len2 cap2 z2 W w0 w1 w2).mono fun e W' ⟨he, bel⟩ => ?_
  subst he
  exact ⟨_, rfl, _, _, _, [], _, [], hW', trodAll_mk1 (shut_bool Try.underlying4 _), (trodAll_cons_mk (Below.trod laidOut (by kernel_rfl) (of_decide_eq_true (by kernel_rfl)) k0 bel lt0) (trodAll_cons_mk (Below.trod laidOut (by kernel_rfl) (of_decide_eq_true (by kernel_rfl)) k1 bel lt1) (trodAll_cons_mk (Below.trod laidOut (by kernel_rfl) (of_decide_eq_true (by kernel_rfl)) k2 bel lt2) trodAll_mk0))), rfl, bel.frame _, fun h => by cases h⟩

theorem over : Rows.fnSkipStringSkipsAnEscapedTextRow.holds Try.pinned (OpenSpec.ofChange Rows.fnSkipStringSkipsAnEscapedTextSpec) :=
  OpenClaim.holds_of_wide 6 Try.f6 rfl rfl rfl rfl rfl rfl rfl ⟨rfl, rfl, rfl, rfl, rfl⟩ rfl rfl rfl rfl rfl (by kernel_rfl) Try.func6 (by kernel_rfl)
    (of_decide_eq_true (by kernel_rfl)) (by unfold Func.isWrapper; first | (rw [if_pos (by decide +kernel)]; kernel_rfl) | (rw [if_neg (by decide +kernel)]; exact ⟨rfl, rfl⟩))
    (fun os started H enc _ => lifted os started H enc)

/-- ████ THE STATEMENT ████ -/
theorem proved : Rows.FnSkipStringSkipsAnEscapedTextSaid := over
end Go.Proofs.Qxb6600795a.fnSkipStringSkipsAnEscapedText
