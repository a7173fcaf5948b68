import Derived.Test.Qxb6001236aWalkC
import Derived.OpenShut
namespace Go.Proofs.Qxb6001236a.Walks
open Go.RowKit Go.Proofs.Qxb6001236a.Plain

/-- a slice of bytes that came in: empty, or its elements' cells -/
theorem view {w : World} {a : Option Addr} {len cap : Nat} {zs : List Int}
    (h : (a = none ∧ len = 0 ∧ cap = 0 ∧ zs = []) ∨ ∃ x, a = some x ∧ len ≤ cap ∧ cap ≤ maxLen ∧ zs.length = cap ∧ (∀ i, i < zs.length → w.cell? (x.add i) = some (.int .u8 (zs.getD i 0))) ∧ ∀ n ∈ zs, (Lit.int .u8 n).wf = true) :
    len = 0 ∨ ∃ b o ds, a = some ⟨b, o, none⟩ ∧ 0 < len ∧ List.length ds = len ∧ (∀ i, i < len → w.cell? ⟨b, o + i, none⟩ = some (.int .u8 (bt ds i))) ∧ ∀ i, 0 ≤ bt ds i ∧ bt ds i ≤ 255 := by
  rcases h with ⟨_, h, _, _⟩ | ⟨x, rfl, h1, h2, h3, h4, h5⟩
  · exact .inl h
  · rcases Nat.eq_zero_or_pos len with h0 | h0
    · exact .inl h0
    · right
      obtain ⟨b, o, rfl, hc⟩ := ints_at h4 (by omega)
      refine ⟨b, o, zs.take len, rfl, h0, by simp; omega, fun i hi => ?_, fun i => ?_⟩
      · rw [hc i (by omega)]
        simp [bt, List.getD_eq_getElem?_getD, hi]
      · by_cases hi : i < (zs.take len).length
        · have e : bt (zs.take len) i = (zs.take len)[i] := by simp [bt, List.getD_eq_getElem?_getD, List.getElem?_eq_getElem hi]
          rw [e]
          exact bounds_u8 (h5 _ (List.mem_of_mem_take (List.getElem_mem hi)))
        · have e : bt (zs.take len) i = 0 := by simp [bt, List.getD_eq_getElem?_getD, List.getElem?_eq_none (Nat.le_of_not_lt hi)]
          rw [e]; omega
end Go.Proofs.Qxb6001236a.Walks
