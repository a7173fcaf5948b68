import Derived.Test.Qxb6600795aChecked
import Derived.Test.Qxb6600795aPlain
import Derived.WalkKit
import Derived.ProofKit
import Derived.RegionTactic
import Derived.Deep.RegionLaw
import Derived.Laws.BitsAllLaws
import Derived.WalkSpells
import Derived.OwnWalk
namespace Go.Proofs.Qxb6600795a.Walks
open Go.RowKit Go.Proofs.Qxb6600795a.Plain
set_option linter.unusedVariables false

theorem ret_int {k : IntKind} {a b : Int} (h : a = b) : Ending.returned (.int k a) = .returned (.int k b) := by rw [h]

set_option maxHeartbeats 800000 in
/-- skipString, function 17, over a text that is closed -/
theorem skip_any (b len cap i n : Nat) (D : List Int) (w : World) (hl : D.length = len) (h2 : len ≤ 4194304) (hc : ∀ j, j < len → w.cell? ⟨b, j, none⟩ = some (.int .u8 (bt D j))) (hs : sk (D.drop (i + 1)) = some n) :
    Calls Try.prog 17 #[.slice (some ⟨b, 0, none⟩) len cap, .int .i64 i] w fun e w' => e = .returned (.int .i64 (i + 1 + n : Nat)) ∧ w' = w := by
  have HC : Hid (∀ j, j < len → w.cell? ⟨b, j, none⟩ = some (.int .u8 (bt D j))) := hc
  have HS : Hid (sk (D.drop (i + 1)) = some n) := hs
  have hin := sk_in D (i + 1) n hs
  rw [hl] at hin
  clear hc hs
  go_enter Try.func17, Try.ntmps17
  go_wp2_with fail
  go_loop [1] (fun x => ∃ k m : Nat, x = .int .i64 k ∧ k + m = i + 1 + n ∧ sk (D.drop k) = some m) (fun x => len - (intOf x).toNat)
  case atStart => exact ⟨i + 1, n, by go_num, rfl, HS.out⟩
  case round =>
    obtain ⟨k, m, rfl, hkm, hsk⟩ := hrel
    have hk := sk_in D k m hsk
    rw [hl] at hk
    have hc1 := HC.out k hk
    have HK : Hid (k + m = i + 1 + n) := hkm
    clear hkm
    by_cases q1 : bt D k = 34
    · have hm := sk_at34 D k m hsk q1
      have HM : Hid (m = 1) := hm
      have q1' : (bt D k != 34) = false := by rw [q1]; rfl
      clear hsk q1 hm
      go_wp2_with fail
      go_ret
      exact ⟨ret_int (by have := HK.out; have := HM.out; omega), rfl⟩
    · have q1' : (bt D k != 34) = true := bne_iff_ne.2 q1
      by_cases q2 : bt D k = 92
      · obtain ⟨m', e1, e2, e3⟩ := sk_at92 D k m hsk q2
        rw [hl] at e3
        have q2' : (bt D k == 92) = true := beq_iff_eq.2 q2
        have HE : Hid (m = m' + 2 ∧ sk (D.drop (k + 1 + 1)) = some m') := ⟨e1, e2⟩
        clear hsk q1 q2 e1 e2
        go_wp2_with fail
        go_round
        case rel => exact ⟨k + 1 + 1, m', by go_num, by have := HK.out; have := HE.out.1; omega, HE.out.2⟩
        case measure => simp [intOf]; omega
      · obtain ⟨m', e1, e2⟩ := sk_at D k m hsk q1 q2
        have q2' : (bt D k == 92) = false := beq_eq_false_iff_ne.2 q2
        have HE : Hid (m = m' + 1 ∧ sk (D.drop (k + 1)) = some m') := ⟨e1, e2⟩
        clear hsk q1 q2 e1 e2
        go_wp2_with fail
        go_round
        case rel => exact ⟨k + 1, m', by go_num, by have := HK.out; have := HE.out.1; omega, HE.out.2⟩
        case measure => simp [intOf]; omega

/-- ZZskipString, function 13 -/
theorem zzskip_any (b len cap i n : Nat) (D : List Int) (w : World) (hl : D.length = len) (h2 : len ≤ 4194304) (hc : ∀ j, j < len → w.cell? ⟨b, j, none⟩ = some (.int .u8 (bt D j))) (hs : sk (D.drop (i + 1)) = some n) :
    Calls Try.prog 13 #[.slice (some ⟨b, 0, none⟩) len cap, .int .i64 i] w fun e w' => e = .returned (.int .i64 (i + 1 + n : Nat)) ∧ w' = w := by
  have H : Hid _ := skip_any b len cap i n D w hl h2 hc hs
  clear hc hs
  go_enter Try.func13, Try.ntmps13
  go_wp2_with fail
  refine Calls.mono H.out ?_
  rintro e w' ⟨rfl, rfl⟩
  go_wp2
  go_ret
  exact ⟨rfl, rfl⟩

theorem info5 : (Try.prog.info? 5).map (fun i => (i.zero, i.size, i.bytes)) = some (some (.int .u8 0), 1, 1) := by kernel_rfl

theorem cells_new (w : World) (vs : List Value) (t : TypeId) : ∀ j u, vs[j]? = some u → (w.alloc (.cells vs.toArray t)).cell? ((⟨w.heap.size, 0, none⟩ : Addr).add j) = some u := by
  intro j u hj
  have : (⟨w.heap.size, 0, none⟩ : Addr).add j = ⟨w.heap.size, j, none⟩ := by simp [Addr.add]; omega
  rw [this, World.cell?_alloc_at _ _ _ _ rfl]
  simpa using hj
/-- append within the room of a row of the call's own, as one step of a region that draws -/
theorem step_append_fits {P : Program} {ops : Array Oper} {o : Oper} {a : Act} {w : World} {K : Act → World → Prop} {Q : Exit → Act → World → Prop} {E : Prop}
    (hg : o.guard = none) (s x : Operand) (t : TypeId) (hop : o.op = Op.call { callee := Callee.builtin Builtin.append, args := #[s, x], argTypes := #[t, t] })
    (base : Nat) (e : TypeId) (i : TypeInfo) (size : Nat) (h1 : P.underlying t = some (.slice e)) (h2 : P.info? e = some i) (h4 : i.size = size)
    (g k cap : Nat) (xs : List Value) (hs : a.eval s = .slice (some ⟨g, 0, none⟩) k cap) (hown : w.ownsRow base e size (.slice (some ⟨g, 0, none⟩) k cap) k xs) (ad : Addr) (m c : Nat) (news : List Value) (hx : a.eval x = .slice (some ad) m c) (hn : news.length = m * size)
    (hc : ∀ j u, news[j]? = some u → w.cell? (ad.add j) = some u) (h1c : ∀ u ∈ news, u.oneCell' = true) (b1 : k + m ≤ cap)
    (hK : ∀ w', w'.ownsRow base e size (.slice (some ⟨g, 0, none⟩) (k + m) cap) (k + m) (xs ++ news) → w.grownBy w' (some g) → K (a.put o.dst (.slice (some ⟨g, 0, none⟩) (k + m) cap)) w') :
    if Region.wanted o (yielded ops a.tmps) = true then Oper.wp P o a w K Q else E := by
  have hw : Region.wanted o (yielded ops a.tmps) = true := by simp [Region.wanted, hg]
  rw [if_pos hw]
  obtain ⟨w', hrun, r1, r2⟩ := run_append_fits (P := P) w base t o.type e i size h1 h2 h4 g k cap xs hown ad m c news hn hc h1c b1
  unfold Oper.wp
  simp [execOp, hop, resolve, invoke, builtin, hs, hx, hrun, Result.andThen]
  exact hK w' r1 r2

theorem and15 (c : Int) (h0 : 0 ≤ c) (h1 : c ≤ 255) : bits .and .u8 c 15 = c % 16 := by
  rw [u8_and c 15 h0 (by omega) (by omega) (by omega)]
  have := Nat.and_two_pow_sub_one_eq_mod c.toNat 4
  have e : (15 : Int).toNat = 2 ^ 4 - 1 := rfl
  rw [e, this]
  omega
theorem hex_at (v : Int) (h0 : 0 ≤ v) (h1 : v < 16) (h : v.toNat < (⟨#[48, 49, 50, 51, 52, 53, 54, 55, 56, 57, 97, 98, 99, 100, 101, 102]⟩ : ByteArray).size) :
    (((⟨#[48, 49, 50, 51, 52, 53, 54, 55, 56, 57, 97, 98, 99, 100, 101, 102]⟩ : ByteArray)[v.toNat]'h).toNat : Int) = hx v := by
  rcases (show v = 0 ∨ v = 1 ∨ v = 2 ∨ v = 3 ∨ v = 4 ∨ v = 5 ∨ v = 6 ∨ v = 7 ∨ v = 8 ∨ v = 9 ∨ v = 10 ∨ v = 11 ∨ v = 12 ∨ v = 13 ∨ v = 14 ∨ v = 15 by omega) with rfl | rfl | rfl | rfl | rfl | rfl | rfl | rfl | rfl | rfl | rfl | rfl | rfl | rfl | rfl | rfl <;> rfl

theorem six_oneCell (a b c d e f : Int) : ∀ u ∈ [Value.int .u8 a, .int .u8 b, .int .u8 c, .int .u8 d, .int .u8 e, .int .u8 f], u.oneCell' = true := ints_oneCell .u8 [a, b, c, d, e, f]

/-! ### a row of bytes that is appended to within its room -/
def Own (w : World) (J : Nat) (xs : List Int) (cap : Nat) : Prop := w.ownsRow J 5 1 (.slice (some ⟨J, 0, none⟩) xs.length cap) xs.length (xs.map (Value.int .u8))
theorem own_lt {w : World} {J cap : Nat} {xs : List Int} (h : Own w J xs cap) : J < w.heap.size := by
  rcases h.2 with ⟨h, _⟩ | ⟨g, c', cur, h, _, hg, _⟩
  · simp at h
  · simp only [Value.slice.injEq, Option.some.injEq, Addr.mk.injEq, and_true, true_and] at h
    obtain ⟨rfl, _⟩ := h
    rcases Nat.lt_or_ge J w.heap.size with h' | h'
    · exact h'
    · rw [Array.getElem?_eq_none h'] at hg; cases hg
theorem own_cell {w : World} {J cap : Nat} {xs : List Int} (h : Own w J xs cap) (i : Nat) (hi : i < xs.length) : w.cell? ⟨J, i, none⟩ = some (.int .u8 (bt xs i)) := by
  rw [World.ownsRow.cellAt h i (by omega)]
  simp [bt, hi]
theorem own_out {w : World} {J cap n : Nat} {xs : List Int} (h : Own w J xs cap) (hn : xs.length = n) : w.ownsRow J 5 1 (.slice (some ⟨J, 0, none⟩) n cap) n (xs.map (Value.int .u8)) := by subst hn; exact h
theorem own_step {w' : World} {J cap n m : Nat} {xs news : List Int} (hn : xs.length = n) (hm : news.length = m) (h : w'.ownsRow J 5 1 (.slice (some ⟨J, 0, none⟩) (n + m) cap) (n + m) (xs.map (Value.int .u8) ++ news.map (Value.int .u8))) : Own w' J (xs ++ news) cap := by
  subst hn hm
  unfold Own
  rw [List.length_append, List.map_append]
  exact h
theorem below_step {B J : Nat} {a w w' : World} {o : Obj} (h : Below B a w) (hB : B ≤ w.heap.size) (hJ : B ≤ J) (hg : (w.alloc o).grownBy w' (some J)) : Below B a w' :=
  (h.alloc hB o).grown hg (by simp; omega) (fun k hk => by cases hk; exact hJ)
theorem below_step_drew {B J : Nat} {a w w' : World} {o : Obj} (h : Below B a w) (hB : B ≤ w.heap.size) (hJ : B ≤ J) (hg : (w.alloc o).drew.grownBy w' (some J)) : Below B a w' :=
  ((h.alloc hB o).drew).grown hg (by simp; omega) (fun k hk => by cases hk; exact hJ)
theorem take_succ_bt (A : List Int) (k : Nat) (h : k < A.length) : A.take k ++ [bt A k] = A.take (k + 1) := by
  rw [List.take_succ_eq_append_getElem h]
  simp [bt, h]
theorem esc_step (P pre : List Int) (k : Nat) (h : k < P.length) : pre ++ esc (P.take (k + 1)) = (pre ++ esc (P.take k)) ++ escC (bt P k) := by
  rw [← take_succ_bt P k h, esc_app, List.append_assoc]
  congr 1
  simp [esc]
theorem escC_quote {c : Int} (h : c = 34) : escC c = [92, 34] := by unfold escC; rw [if_pos h]
theorem escC_back {c : Int} (h : c = 92) : escC c = [92, 92] := by unfold escC; rw [if_neg (by omega), if_pos h]
theorem escC_ctl {c : Int} (h : c < 32) : escC c = [92, 117, 48, 48, hx (c / 16), hx (c % 16)] := by unfold escC; rw [if_neg (by omega), if_neg (by omega), if_pos h]
theorem escC_plain {c : Int} (h1 : ¬ c = 34) (h2 : ¬ c = 92) (h3 : ¬ c < 32) : escC c = [c] := by unfold escC; rw [if_neg h1, if_neg h2, if_neg h3]

set_option maxRecDepth 100000 in
set_option maxHeartbeats 2000000 in
/-- zzb1AppendEscaped, function 15, at a payload that is not empty -/
theorem esc_row (J cap b o len pc n : Nat) (P pre : List Int) (w : World) (hl : P.length = len) (h2 : len ≤ 131072) (hc : ∀ i, i < len → w.cell? ⟨b, o + i, none⟩ = some (.int .u8 (bt P i))) (hr : ∀ i, 0 ≤ bt P i ∧ bt P i ≤ 255)
    (hbJ : b < J) (hown : Own w J pre cap) (hn : pre.length = n) (hroom : n + 6 * len ≤ cap) (hcap : cap ≤ 4194304) :
    Calls Try.prog 15 #[.slice (some ⟨J, 0, none⟩) n cap, .slice (some ⟨b, o, none⟩) len pc] w fun e w' => e = .returned (.slice (some ⟨J, 0, none⟩) (n + (esc P).length) cap) ∧ Own w' J (pre ++ esc P) cap ∧ Below J w w' := by
  obtain ⟨i0, hi, hz0, hz1, hz2⟩ := info_parts info5
  have HC : Hid (∀ i, i < len → w.cell? ⟨b, o + i, none⟩ = some (.int .u8 (bt P i))) := hc
  have HR : Hid (∀ i, 0 ≤ bt P i ∧ bt P i ≤ 255) := hr
  have HO : Hid (Own w J pre cap) := hown
  have hJw := own_lt hown
  clear hc hr hown
  go_enter Try.func15, Try.ntmps15
  go_wp2_with fail
  go_loopw [0, 5] (fun x y wr => ∃ k N : Nat, x = .slice (some ⟨J, 0, none⟩) N cap ∧ y = .int .i64 k ∧ k ≤ len ∧ N ≤ n + 6 * k ∧ (pre ++ esc (P.take k)).length = N ∧ Own wr J (pre ++ esc (P.take k)) cap ∧ Below J w wr) (fun _ y _ => len - (intOf y).toNat)
  case atStart => exact ⟨0, n, rfl, rfl, by omega, by omega, by simp [esc, hn], by simp only [List.take_zero, esc, List.append_nil]; exact HO.out, Below.refl _ _⟩
  case round =>
    obtain ⟨k, N, rfl, rfl, hk, hN, hlN, hown, hbel⟩ := hrel
    by_cases hlt : k < len
    · have hc1 : wr.cell? ⟨b, o + k, none⟩ = some (.int .u8 (bt P k)) := by rw [hbel.cell hbJ]; exact HC.out k hlt
      have hr1 := HR.out k
      have ho := own_out hown hlN
      have hJs : J ≤ wr.heap.size := Nat.le_of_lt (own_lt hown)
      clear hown
      generalize hv : bt P k = c at hc1 hr1
      by_cases p1 : c = 34
      · have q1 : (c == 34) = true := beq_iff_eq.2 p1
        have E : Hid (escC (bt P k) = [92, 34]) := by rw [hv]; exact escC_quote p1
        clear p1 hv
        go_wp2_with (at_builtin; refine wpList_append_fits _ rfl (.tmp 24) (.tmp 25) 22 rfl J 5 i0 1 Try.underlying22 hi hz1 J N cap _ rfl (ho.alloc _) ⟨wr.heap.size, 0, none⟩ 2 2 [.int .u8 92, .int .u8 34] rfl rfl (cells_new _ _ _) (ints_oneCell .u8 [92, 34]) (by omega) ?_; intro w3 hown3 hgrow3)
        have R : Hid (Own w3 J (pre ++ esc (P.take (k + 1))) cap ∧ Below J w w3) := by
          refine ⟨?_, below_step hbel hJs (Nat.le_refl _) hgrow3⟩
          have := own_step (news := [92, 34]) hlN rfl hown3
          rw [esc_step P pre k (by omega), E.out]
          exact this
        have hl3 : Hid ((pre ++ esc (P.take (k + 1))).length = N + 2) := by
          show (pre ++ esc (P.take (k + 1))).length = N + 2
          rw [esc_step P pre k (by omega), E.out, List.length_append, hlN]; rfl
        clear ho hown3 hgrow3
        go_roundw
        case rel => exact ⟨k + 1, N + 2, rfl, by go_num, by omega, by omega, hl3.out, R.out.1, R.out.2⟩
        case measure => simp [intOf]; omega
      · have q1 : (c == 34) = false := beq_eq_false_iff_ne.2 p1
        by_cases p2 : c = 92
        · have q2 : (c == 92) = true := beq_iff_eq.2 p2
          have E : Hid (escC (bt P k) = [92, 92]) := by rw [hv]; exact escC_back p2
          clear p1 p2 hv
          go_wp2_with (at_builtin; refine wpList_append_fits _ rfl (.tmp 30) (.tmp 31) 22 rfl J 5 i0 1 Try.underlying22 hi hz1 J N cap _ rfl (ho.alloc _) ⟨wr.heap.size, 0, none⟩ 2 2 [.int .u8 92, .int .u8 92] rfl rfl (cells_new _ _ _) (ints_oneCell .u8 [92, 92]) (by omega) ?_; intro w3 hown3 hgrow3)
          have R : Hid (Own w3 J (pre ++ esc (P.take (k + 1))) cap ∧ Below J w w3) := by
            refine ⟨?_, below_step hbel hJs (Nat.le_refl _) hgrow3⟩
            have := own_step (news := [92, 92]) hlN rfl hown3
            rw [esc_step P pre k (by omega), E.out]
            exact this
          have hl3 : Hid ((pre ++ esc (P.take (k + 1))).length = N + 2) := by
            show (pre ++ esc (P.take (k + 1))).length = N + 2
            rw [esc_step P pre k (by omega), E.out, List.length_append, hlN]; rfl
          clear ho hown3 hgrow3
          go_roundw
          case rel => exact ⟨k + 1, N + 2, rfl, by go_num, by omega, by omega, hl3.out, R.out.1, R.out.2⟩
          case measure => simp [intOf]; omega
        · have q2 : (c == 92) = false := beq_eq_false_iff_ne.2 p2
          by_cases p3 : c < 32
          · have E : Hid (escC (bt P k) = [92, 117, 48, 48, hx (c / 16), hx (c % 16)]) := by rw [hv]; exact escC_ctl p3
            clear p1 p2 hv
            have a15 := and15 c hr1.1 hr1.2
            have d1 : 0 ≤ c / 16 := by omega
            have d2 : c / 16 < 16 := by omega
            have d3 : 0 ≤ c % 16 := by omega
            have d4 : c % 16 < 16 := by omega
            go_wp2_with fail
            go_region_law (refine step_append_fits rfl (.tmp 36) (.tmp 43) 22 rfl J 5 i0 1 Try.underlying22 hi hz1 J N cap _ rfl (ho.alloc _) ⟨wr.heap.size, 0, none⟩ 6 6 _ rfl rfl (cells_new _ _ _) (six_oneCell _ _ _ _ _ _) (by omega) ?_; intro w3 hown3 hgrow3)
            all_goals
              rw [hex_at (c / 16) d1 d2, hex_at (c % 16) d3 d4] at hown3
              have R : Hid (Own w3 J (pre ++ esc (P.take (k + 1))) cap ∧ Below J w w3) := by
                refine ⟨?_, below_step_drew hbel hJs (Nat.le_refl _) hgrow3⟩
                have := own_step (news := [92, 117, 48, 48, hx (c / 16), hx (c % 16)]) hlN rfl hown3
                rw [esc_step P pre k (by omega), E.out]
                exact this
              have hl3 : Hid ((pre ++ esc (P.take (k + 1))).length = N + 6) := by
                show (pre ++ esc (P.take (k + 1))).length = N + 6
                rw [esc_step P pre k (by omega), E.out, List.length_append, hlN]; rfl
              clear ho hown3 hgrow3
              go_wp2_with fail
              go_roundw
              case rel => exact ⟨k + 1, N + 6, rfl, by go_num, by omega, by omega, hl3.out, R.out.1, R.out.2⟩
              case measure => simp [intOf]; omega
          · have E : Hid (escC (bt P k) = [c]) := by rw [hv]; exact escC_plain p1 p2 p3
            clear p1 p2 hv
            go_wp2_with (at_builtin; refine wpList_append_fits _ rfl (.tmp 17) (.tmp 19) 22 rfl J 5 i0 1 Try.underlying22 hi hz1 J N cap _ rfl (ho.alloc _) ⟨wr.heap.size, 0, none⟩ 1 1 [.int .u8 c] rfl rfl (cells_new _ _ _) (ints_oneCell .u8 [c]) (by omega) ?_; intro w3 hown3 hgrow3)
            have R : Hid (Own w3 J (pre ++ esc (P.take (k + 1))) cap ∧ Below J w w3) := by
              refine ⟨?_, below_step hbel hJs (Nat.le_refl _) hgrow3⟩
              have := own_step (news := [c]) hlN rfl hown3
              rw [esc_step P pre k (by omega), E.out]
              exact this
            have hl3 : Hid ((pre ++ esc (P.take (k + 1))).length = N + 1) := by
              show (pre ++ esc (P.take (k + 1))).length = N + 1
              rw [esc_step P pre k (by omega), E.out, List.length_append, hlN]; rfl
            clear ho hown3 hgrow3
            go_roundw
            case rel => exact ⟨k + 1, N + 1, rfl, by go_num, by omega, by omega, hl3.out, R.out.1, R.out.2⟩
            case measure => simp [intOf]; omega
    · have eT : P.take k = P := List.take_of_length_le (by omega)
      rw [eT] at hown hlN
      have HO2 : Hid (Own wr J (pre ++ esc P) cap) := hown
      have HL : Hid (N = n + (esc P).length) := by rw [List.length_append, hn] at hlN; exact hlN.symm
      clear hown hlN eT
      go_wp2_with fail
      go_ret
      exact ⟨by rw [← HL.out]; rfl, HO2.out, hbel⟩

set_option maxHeartbeats 400000 in
/-- zzb1AppendEscaped, function 15, at an empty payload -/
theorem esc_empty (J n cap : Nat) (a : Option Addr) (pc : Nat) (w : World) :
    Calls Try.prog 15 #[.slice (some ⟨J, 0, none⟩) n cap, .slice a 0 pc] w fun e w' => e = .returned (.slice (some ⟨J, 0, none⟩) n cap) ∧ w' = w := by
  go_enter Try.func15, Try.ntmps15
  go_wp2_with fail
  refine wp_loop_rounds 1 ?_
  rw [rounds_succ]
  go_wp2_with fail
  go_ret
  exact ⟨rfl, rfl⟩
end Go.Proofs.Qxb6600795a.Walks
