import Derived.Test.Qxb6001236aPlainB
/-! THE PLAIN LAW: countValues stops at the first unit past the limit -/
namespace Go.Proofs.Qxb6001236a.Plain

theorem dC_same {u v : Nat → Int} {k : Nat} (h0 : v k = u k) (h1 : v (k + 1) = u (k + 1)) : dC v k = dC u k ∧ dI v k = dI u k ∧ dL v k = dL u k := by
  unfold dC dI dL; rw [h0, h1]; exact ⟨rfl, rfl, rfl⟩
/-- a unit that opens values ends no line; and opens as many where the book ends behind it -/
theorem dC_pos {u v : Nat → Int} {k : Nat} (h : 0 < dC u k) (h0 : v k = u k) (h1 : v (k + 1) = 128) : dI u k = 0 ∧ dL u k = 0 ∧ dC v k = dC u k ∧ dI v k = 0 ∧ dL v k = 0 := by
  have hne : u k ≠ 13 ∧ u k ≠ 10 := by
    constructor
    · intro e; unfold dC at h; rw [e] at h; simp at h
    · intro e; unfold dC at h; rw [e] at h; simp at h
  refine ⟨?_, ?_, ?_, ?_, ?_⟩
  · unfold dI; rw [if_neg (fun x => hne.1 x.1)]
  · unfold dL; rw [if_neg (by omega)]
  · unfold dC at *
    rw [h0, h1]
    by_cases e : u k = 45
    · rw [if_pos e] at h ⊢
      rw [if_pos e]
      have : sep (u (k + 1)) = true := by
        cases hs : sep (u (k + 1)) with
        | true => rfl
        | false => rw [hs] at h; simp at h
      rw [this]; rfl
    · rw [if_neg e, if_neg e]
  · unfold dI; rw [h0, if_neg (fun x => hne.1 x.1)]
  · unfold dL; rw [h0, if_neg (by omega)]

/-- with a limit and without: the run never passes the limit, or stops at a unit; the book cut behind that unit gives the same -/
theorem run_limit (u : Nat → Int) (n : Nat) (limit : Int) : ∀ (f i c l : Nat), (c : Int) ≤ limit → n ≤ i + f →
    (run u n limit f i c l = ((runU u n f i c l).1, none, (runU u n f i c l).2) ∧ ((runU u n f i c l).1 : Int) ≤ limit) ∨
    ∃ j c' l' : Nat, run u n limit f i c l = (c', some j, l') ∧ limit < (c' : Int) ∧ (c' : Int) ≤ limit + 2 ∧ c' ≤ (runU u n f i c l).1 ∧ l' ≤ (runU u n f i c l).2 ∧ i ≤ j ∧ j < n ∧
      ∀ v : Nat → Int, (∀ k, k ≤ j → v k = u k) → v (j + 1) = 128 → ∀ g, j + 1 ≤ i + g → run v (j + 1) limit g i c l = (c', some j, l') ∧ runU v (j + 1) g i c l = (c', l') := by
  intro f
  induction f with
  | zero =>
    intro i c l hc hf
    exact .inl ⟨rfl, hc⟩
  | succ f ih =>
    intro i c l hc hf
    rw [run, runU]
    by_cases hi : i < n
    · rw [if_pos hi, if_pos hi]
      have h2 := dC_le u i
      by_cases hl : limit < ((c + dC u i : Nat) : Int)
      · rw [if_pos hl]
        right
        have hpos : 0 < dC u i := by omega
        have hle := runU_le u n f (i + dI u i + 1) (c + dC u i) (l + dL u i)
        have hd := dC_pos (v := fun k => if k ≤ i then u k else 128) hpos (by simp) (by show (if i + 1 ≤ i then u (i + 1) else 128) = 128; rw [if_neg (by omega)])
        refine ⟨i, c + dC u i, l + dL u i, by rw [hd.1]; rfl, hl, by omega, hle.1, hle.2.2.1, Nat.le_refl _, hi, fun v hv h128 g hg => ?_⟩
        have hv' := dC_pos (v := v) hpos (hv i (Nat.le_refl _)) h128
        cases g with
        | zero => omega
        | succ g =>
          constructor
          · rw [run, if_pos (by omega), hv'.2.2.1, if_pos hl, hv'.2.2.2.1, hv'.2.2.2.2, hv'.2.1]; rfl
          · rw [runU, if_pos (by omega), hv'.2.2.1, hv'.2.2.2.1, hv'.2.2.2.2, hv'.2.1, runU_end _ _ _ _ _ _ (by omega)]
      · rw [if_neg hl]
        have hdi := dI_le u i
        rcases ih (i + dI u i + 1) (c + dC u i) (l + dL u i) (by omega) (by omega) with h | ⟨j, c', l', h1, h3, h4, h5, h6, h7, h8, h9⟩
        · exact .inl h
        · right
          refine ⟨j, c', l', h1, h3, h4, h5, h6, by omega, h8, fun v hv h128 g hg => ?_⟩
          have hv' := dC_same (v := v) (hv i (by omega)) (hv (i + 1) (by omega))
          cases g with
          | zero => omega
          | succ g =>
            have := h9 v hv h128 g (by omega)
            constructor
            · rw [run, if_pos (by omega), hv'.1, if_neg hl, hv'.2.1, hv'.2.2]; exact this.1
            · rw [runU, if_pos (by omega), hv'.1, hv'.2.1, hv'.2.2]; exact this.2
    · rw [if_neg hi, if_neg hi]
      exact .inl ⟨rfl, hc⟩

/-! the book cut behind a unit -/
theorem bt_take (ds : List Int) (m p : Nat) (h : p < m) : bt (ds.take m) p = bt ds p := by
  unfold bt; simp [List.getD_eq_getElem?_getD, h]
theorem P1_take (ds : List Int) (m : Nat) (hm : m ≤ ds.length) (h : 2 ≤ m ∨ P1 ds = false) : P1 (ds.take m) = P1 ds := by
  by_cases h2 : 2 ≤ m
  · unfold P1; rw [bt_take _ _ _ (by omega), bt_take _ _ _ (by omega), List.length_take, decide_eq_true (by omega), decide_eq_true (by omega)]
  · rw [(by rcases h with h | h; omega; exact h : P1 ds = false)]
    unfold P1; rw [List.length_take, decide_eq_false (by omega)]; rfl
theorem P2_take (ds : List Int) (m : Nat) (hm : m ≤ ds.length) (h : 2 ≤ m ∨ P2 ds = false) : P2 (ds.take m) = P2 ds := by
  by_cases h2 : 2 ≤ m
  · unfold P2; rw [bt_take _ _ _ (by omega), bt_take _ _ _ (by omega), List.length_take, decide_eq_true (by omega), decide_eq_true (by omega)]
  · rw [(by rcases h with h | h; omega; exact h : P2 ds = false)]
    unfold P2; rw [List.length_take, decide_eq_false (by omega)]; rfl
theorem P3_take (ds : List Int) (m : Nat) (hm : m ≤ ds.length) (h : 3 ≤ m ∨ P3 ds = false) : P3 (ds.take m) = P3 ds := by
  by_cases h2 : 3 ≤ m
  · unfold P3; rw [bt_take _ _ _ (by omega), bt_take _ _ _ (by omega), bt_take _ _ _ (by omega), List.length_take, decide_eq_true (by omega), decide_eq_true (by omega)]
  · rw [(by rcases h with h | h; omega; exact h : P3 ds = false)]
    unfold P3; rw [List.length_take, decide_eq_false (by omega)]; rfl
theorem open_take (ds : List Int) (i m : Nat) (hm : m ≤ ds.length) (he : m = uSt ds + i * uSz ds + uSz ds) : uSt (ds.take m) = uSt ds ∧ uSz (ds.take m) = uSz ds ∧ uLo (ds.take m) = uLo ds := by
  have a1 : P1 (ds.take m) = P1 ds := P1_take ds m hm (by
    cases h : P1 ds with
    | false => exact .inr rfl
    | true => left; unfold uSt at he; rw [h] at he; simp at he; omega)
  have a2 : P1 ds = false → P2 (ds.take m) = P2 ds := fun h1 => P2_take ds m hm (by
    cases h : P2 ds with
    | false => exact .inr rfl
    | true => left; unfold uSt at he; rw [h1, h] at he; simp at he; omega)
  have a3 : P1 ds = false → P2 ds = false → P3 (ds.take m) = P3 ds := fun h1 h2 => P3_take ds m hm (by
    cases h : P3 ds with
    | false => exact .inr rfl
    | true => left; unfold uSt uSz at he; rw [h1, h2, h] at he; simp at he; omega)
  unfold uSt uSz uLo
  rw [a1]
  cases h1 : P1 ds with
  | true => simp
  | false =>
    rw [a2 h1]
    cases h2 : P2 ds with
    | true => simp
    | false => rw [a3 h1 h2]; simp

theorem cfg_cases (ds : List Int) : (uSz ds = 1 ∧ uLo ds = 0) ∨ (uSz ds = 2 ∧ uLo ds = 0) ∨ (uSz ds = 2 ∧ uLo ds = 1) := by
  unfold uSz uLo
  cases P1 ds <;> cases P2 ds <;> simp
theorem uSt_le (ds : List Int) : uSt ds ≤ ds.length := by
  unfold uSt
  cases h1 : P1 ds with
  | true => unfold P1 at h1; simp at h1; simp; exact h1.1
  | false =>
    cases h2 : P2 ds with
    | true => unfold P2 at h2; simp at h2; simp; exact h2.1
    | false =>
      cases h3 : P3 ds with
      | true => unfold P3 at h3; simp at h3; simp; exact h3.1
      | false => simp
theorem unit_in (ds : List Int) (i : Nat) (hi : i < uLen ds) : uSt ds + i * uSz ds + uSz ds ≤ ds.length := by
  unfold uLen uN at hi
  have := uSt_le ds
  rcases cfg_cases ds with ⟨h, _⟩ | ⟨h, _⟩ | ⟨h, _⟩ <;> rw [h] at hi ⊢ <;> omega
theorem uLen_le (ds : List Int) : uLen ds ≤ ds.length := by
  unfold uLen uN
  rcases cfg_cases ds with ⟨h, _⟩ | ⟨h, _⟩ | ⟨h, _⟩ <;> rw [h] <;> omega

theorem cut_units (ds : List Int) (i m : Nat) (hi : i < uLen ds) (he : m = uSt ds + i * uSz ds + uSz ds) :
    uLen (ds.take m) = i + 1 ∧ (∀ k, k ≤ i → uU (ds.take m) k = uU ds k) ∧ uU (ds.take m) (i + 1) = 128 := by
  have hm := unit_in ds i hi
  rw [← he] at hm
  obtain ⟨o1, o2, o3⟩ := open_take ds i m hm he
  have hl : (ds.take m).length = m := by rw [List.length_take]; omega
  have hn : uN m (uSt ds) (uSz ds) = i + 1 := by
    unfold uN
    rcases cfg_cases ds with ⟨h, _⟩ | ⟨h, _⟩ | ⟨h, _⟩ <;> rw [h] at he ⊢ <;> omega
  refine ⟨by unfold uLen; rw [o1, o2, hl, hn], fun k hk => ?_, ?_⟩
  · unfold uU
    rw [o1, o2, o3]
    unfold asc
    rw [hl, hn, if_neg (show ¬ i + 1 ≤ k by omega), if_neg (show ¬ uN ds.length (uSt ds) (uSz ds) ≤ k from fun g => by unfold uLen at hi; omega)]
    have hb : uSt ds + k * uSz ds + uLo ds < m ∧ uSt ds + k * uSz ds + uLo ds + 1 - 2 * uLo ds < m ∨ uSz ds = 1 ∧ uSt ds + k * uSz ds + uLo ds < m := by
      clear o1 o2 o3 hl hn hm
      rcases cfg_cases ds with ⟨h, h'⟩ | ⟨h, h'⟩ | ⟨h, h'⟩ <;> rw [h] at he <;> rw [h, h'] <;> omega
    rcases hb with ⟨hb1, hb2⟩ | ⟨hz, hb1⟩
    · rw [bt_take _ _ _ hb1, bt_take _ _ _ hb2]
    · rw [bt_take _ _ _ hb1]
      split
      · rfl
      · rw [if_neg (by omega), if_neg (by omega)]
  · unfold uU
    rw [o1, o2, o3]
    unfold asc
    rw [hl, hn, if_pos (Nat.le_refl _)]

/-- THE PLAIN LAW -/
theorem cv_stops (ds : List Int) (limit M : Int) (h4 : 4 ≤ limit) (hM : ((4 + 2 * ds.length : Nat) : Int) ≤ M) :
    ∃ fc fl : Nat, cv ds M = (fc, none, fl) ∧ fc ≤ 4 + 2 * ds.length ∧ fl ≤ 1 + ds.length ∧
      ((cv ds limit = (fc, none, fl) ∧ (fc : Int) ≤ limit) ∨
       ∃ i c l : Nat, cv ds limit = (c, some i, l) ∧ limit < (c : Int) ∧ (c : Int) ≤ limit + 2 ∧ c ≤ fc ∧ l ≤ fl ∧ i < uLen ds ∧
        cv (ds.take (uSt ds + i * uSz ds + uSz ds)) limit = (c, some i, l) ∧ cv (ds.take (uSt ds + i * uSz ds + uSz ds)) M = (c, none, l)) := by
  have hlen := uLen_le ds
  have eM : cv ds M = ((runU (uU ds) (uLen ds) (uLen ds) 0 4 1).1, none, (runU (uU ds) (uLen ds) (uLen ds) 0 4 1).2) := by
    unfold cv; exact run_unl _ _ _ _ _ _ _ (by omega)
  have hb := runU_le (uU ds) (uLen ds) (uLen ds) 0 4 1
  refine ⟨_, _, eM, by omega, by omega, ?_⟩
  rcases run_limit (uU ds) (uLen ds) limit (uLen ds) 0 4 1 (by omega) (by omega) with ⟨h1, h2⟩ | ⟨j, c', l', h1, h3, h5, h6, h7, _, h8, h9⟩
  · exact .inl ⟨h1, h2⟩
  · right
    obtain ⟨n1, n2, n3⟩ := cut_units ds j _ h8 rfl
    have hr := h9 (uU (ds.take (uSt ds + j * uSz ds + uSz ds))) n2 n3 (j + 1) (by omega)
    refine ⟨j, c', l', h1, h3, h5, h6, h7, h8, ?_, ?_⟩
    · unfold cv; rw [n1]; exact hr.1
    · unfold cv
      rw [n1, run_unl _ _ _ _ _ _ _ (by omega), hr.2]
end Go.Proofs.Qxb6001236a.Plain
