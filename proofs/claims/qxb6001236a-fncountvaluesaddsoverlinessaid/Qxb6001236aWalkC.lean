import Derived.Test.Qxb6001236aWalkA
import Derived.Laws.BytesArg
import Derived.Lib.SlBytesConst
namespace Go.Proofs.Qxb6001236a.Walks
open Go.RowKit Go.Proofs.Qxb6001236a.Plain Go.Sort
set_option linter.unusedVariables false

/-- bytes.Equal, function 30, at two rows -/
theorem equal_any (b p n c1 c2 : Nat) (xs ys : List Int) (w : World) (hx : xs.length = n) (hy : ys.length = n)
    (hcx : ∀ i, i < n → w.cell? ⟨b, 0 + i, none⟩ = some (.int .u8 (xs.getD i 0))) (hcy : ∀ i, i < n → w.cell? ⟨p, 0 + i, none⟩ = some (.int .u8 (ys.getD i 0))) :
    Calls Try.prog 30 #[.slice (some ⟨b, 0, none⟩) n c1, .slice (some ⟨p, 0, none⟩) n c2] w fun e w' => e = .returned (.bool ((strOfNums xs).toList == (strOfNums ys).toList)) ∧ w' = w := by
  have e1 := run_convert_bytes_arg (P := Try.prog) w 22 5 Try.underlying22 Try.underlying5 b 0 n c1 xs hx hcx 9 Try.underlying9
  have e2 := run_convert_bytes_arg (P := Try.prog) w 22 5 Try.underlying22 Try.underlying5 p 0 n c2 ys hy hcy 9 Try.underlying9
  clear hcx hcy hx hy
  go_enter Try.func30, Try.ntmps30
  go_wp2
  go_ret
  exact ⟨rfl, rfl⟩

/-- bytes.HasPrefix, function 28: a book shorter than what it is asked for -/
theorem hasPrefix_short (a : Option Addr) (len cap p n c2 : Nat) (h : len < n) (w : World) :
    Calls Try.prog 28 #[.slice a len cap, .slice (some ⟨p, 0, none⟩) n c2] w fun e w' => e = .returned (.bool false) ∧ w' = w := by
  go_enter Try.func28, Try.ntmps28
  go_wp2
  go_ret
  exact ⟨rfl, rfl⟩
theorem hasPrefix_long (b len cap p n c2 : Nat) (xs ys : List Int) (r : Bool) (w : World) (hn : n ≤ len) (hlc : len ≤ cap) (hl : cap ≤ maxLen) (h0 : 0 < n) (hx : xs.length = n) (hy : ys.length = n)
    (hcx : ∀ i, i < n → w.cell? ⟨b, 0 + i, none⟩ = some (.int .u8 (xs.getD i 0))) (hcy : ∀ i, i < n → w.cell? ⟨p, 0 + i, none⟩ = some (.int .u8 (ys.getD i 0)))
    (hr : ((strOfNums xs).toList == (strOfNums ys).toList) = r) :
    Calls Try.prog 28 #[.slice (some ⟨b, 0, none⟩) len cap, .slice (some ⟨p, 0, none⟩) n c2] w fun e w' => e = .returned (.bool r) ∧ w' = w := by
  have E := equal_any b p n cap c2 xs ys w hx hy hcx hcy
  rw [hr] at E
  have HE : Hid _ := E
  clear hcx hcy hr hx hy E
  unfold maxLen at hl
  go_enter Try.func28, Try.ntmps28
  go_wp2_with fail
  refine Calls.mono HE.out ?_
  rintro e w' ⟨rfl, rfl⟩
  go_wp2
  go_ret
  exact ⟨rfl, rfl⟩

/-- numbers of a byte's range, written as bytes, are alike just where they are alike -/
theorem nums_eq : ∀ (xs ys : List Int), (∀ x ∈ xs, 0 ≤ x ∧ x ≤ 255) → (∀ y ∈ ys, 0 ≤ y ∧ y ≤ 255) → xs.map (fun n => UInt8.ofNat n.toNat) = ys.map (fun n => UInt8.ofNat n.toNat) → xs = ys
  | [], [], _, _, _ => rfl
  | [], _ :: _, _, _, h => by simp at h
  | _ :: _, [], _, _, h => by simp at h
  | x :: xs, y :: ys, hx, hy, h => by
    simp only [List.map_cons, List.cons.injEq] at h
    have a := hx x (by simp)
    have b := hy y (by simp)
    have e : x = y := by
      have := congrArg UInt8.toNat h.1
      simp only [UInt8.toNat_ofNat'] at this
      omega
    rw [e, nums_eq xs ys (fun z hz => hx z (by simp [hz])) (fun z hz => hy z (by simp [hz])) h.2]
theorem str_beq (xs ys : List Int) (hx : ∀ x ∈ xs, 0 ≤ x ∧ x ≤ 255) (hy : ∀ y ∈ ys, 0 ≤ y ∧ y ≤ 255) : ((strOfNums xs).toList == (strOfNums ys).toList) = decide (xs = ys) := by
  rw [ByteArray.toList_eq, ByteArray.toList_eq, strOfNums_data, strOfNums_data]
  by_cases h : xs = ys
  · rw [h]; simp
  · rw [decide_eq_false h]
    exact beq_eq_false_iff_ne.2 fun e => h (nums_eq xs ys hx hy e)

/-- a book in memory: len of its cap cells, the bytes ds, at the head of block b -/
def Book (w : World) (b len cap : Nat) (ds : List Int) : Prop := Bk w b len ds ∧ len ≤ cap ∧ cap ≤ maxLen ∧ b < w.heap.size

theorem Book.later {w w' : World} {b len cap : Nat} {ds : List Int} (h : Book w b len cap ds) (hb : Below w.heap.size w w') : Book w' b len cap ds := by
  obtain ⟨⟨h1, h2, h3, h4⟩, h5, h6, h7⟩ := h
  exact ⟨⟨h1, h2, fun i hi => by rw [hb.cell h7]; exact h3 i hi, h4⟩, h5, h6, Nat.lt_of_lt_of_le h7 hb.size⟩

def isP (ds ys : List Int) : Bool := decide (ys.length ≤ ds.length) && decide (ds.take ys.length = ys)

theorem mem_bt (ds : List Int) (h : ∀ i, 0 ≤ bt ds i ∧ bt ds i ≤ 255) : ∀ x ∈ ds, 0 ≤ x ∧ x ≤ 255 := by
  intro x hx
  obtain ⟨j, hj, rfl⟩ := List.getElem_of_mem hx
  have := h j
  unfold bt at this
  rw [List.getD_eq_getElem?_getD, List.getElem?_eq_getElem hj] at this
  exact this

/-- bytes.HasPrefix, function 28, at a book -/
theorem hasPrefix_any (b len cap p n c2 : Nat) (ds ys : List Int) (w : World) (hB : Book w b len cap ds) (h0 : 0 < n) (hy : ys.length = n)
    (hcy : ∀ i, i < n → w.cell? ⟨p, 0 + i, none⟩ = some (.int .u8 (ys.getD i 0))) (hyr : ∀ y ∈ ys, 0 ≤ y ∧ y ≤ 255) :
    Calls Try.prog 28 #[.slice (some ⟨b, 0, none⟩) len cap, .slice (some ⟨p, 0, none⟩) n c2] w fun e w' => e = .returned (.bool (isP ds ys)) ∧ w' = w := by
  obtain ⟨⟨hl, h2, hc, hr⟩, hlc, hcm, hbw⟩ := hB
  by_cases hn : n ≤ len
  · refine hasPrefix_long b len cap p n c2 (ds.take n) ys _ w hn hlc hcm h0 (by simp; omega) hy (fun i hi => ?_) hcy ?_
    · rw [Nat.zero_add, hc i (by omega)]
      unfold bt
      simp [List.getD_eq_getElem?_getD, hi]
    · rw [str_beq _ _ (fun x hx => mem_bt ds hr x (List.mem_of_mem_take hx)) hyr]
      unfold isP
      rw [hy, decide_eq_true (show n ≤ ds.length by omega)]; simp
  · have e : isP ds ys = false := by unfold isP; rw [hy, decide_eq_false (show ¬ n ≤ ds.length by omega)]; rfl
    rw [e]
    exact hasPrefix_short _ len cap p n c2 (by omega) w

theorem P1_is (ds : List Int) : isP ds [255, 254] = P1 ds := by
  unfold isP P1 bt
  match ds with
  | [] => rfl
  | [x] => rfl
  | x :: y :: r => simp; rfl
theorem P2_is (ds : List Int) : isP ds [254, 255] = P2 ds := by
  unfold isP P2 bt
  match ds with
  | [] => rfl
  | [x] => rfl
  | x :: y :: r => simp; rfl
theorem P3_is (ds : List Int) : isP ds [239, 187, 191] = P3 ds := by
  unfold isP P3 bt
  match ds with
  | [] => rfl
  | [x] => rfl
  | [x, y] => rfl
  | x :: y :: z :: r => simp; rfl
end Go.Proofs.Qxb6001236a.Walks
