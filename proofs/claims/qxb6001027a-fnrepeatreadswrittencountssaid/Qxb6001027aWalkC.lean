import Derived.Test.Qxb6001027aWalkA
import Derived.RegionTactic
import Derived.Laws.BytesArg
namespace Go.Proofs.Qxb6001027a.Walks
open Go.RowKit Go.Proofs.Qxb6001027a.Plain

/-- a text of n zeros -/
def zerosA (n : Nat) : ByteArray := ⟨(List.replicate n 48).toArray⟩

theorem zerosA_succ (n : Nat) : zerosA n ++ ⟨#[48]⟩ = zerosA (n + 1) := by
  unfold zerosA
  ext1
  simp [List.replicate_succ', ← List.push_toArray]
theorem zerosA_size (n : Nat) : (zerosA n).size = n := by simp [zerosA, ByteArray.size]
theorem ret_str {a b : ByteArray} (h : a = b) : Ending.returned (.string a) = .returned (.string b) := by rw [h]

set_option maxHeartbeats 400000 in
/-- hZeros, function 23 -/
theorem hZeros_any (n : Nat) (hn : n ≤ 7) (w : World) : Calls Try.prog 23 #[.int .i64 n] w fun e w' => e = .returned (.string (zerosA n)) ∧ w' = w := by
  go_enter Try.func23, Try.ntmps23
  go_wp2
  go_loop [3, 4] (fun s j => ∃ k : Nat, k ≤ n ∧ j = .int .i64 k ∧ s = .string (zerosA k)) (fun _ j => n - (intOf j).toNat)
  case atStart => exact ⟨0, by omega, rfl, rfl⟩
  case round =>
    obtain ⟨k, hk, rfl, rfl⟩ := hrel
    have hz := zerosA_size k
    by_cases hlt : k < n
    · go_wp2
      go_round
      case rel => exact ⟨k + 1, by omega, by go_num, by rw [zerosA_succ]⟩
      case measure => simp [intOf]; omega
    · go_wp2
      go_ret
      exact ⟨ret_str (by rw [show k = n from by omega]), rfl⟩


def row (xs : List Int) : Array Value := (xs.map (Value.int .u8)).toArray
theorem row_size (xs : List Int) : (row xs).size = xs.length := by simp [row]
theorem row_set (xs : List Int) (k : Nat) (v : Int) : (row xs).setIfInBounds k (.int .u8 v) = row (xs.set k v) := by
  simp [row]
theorem row_get (xs : List Int) (k : Nat) (h : k < xs.length) : (row xs)[k]? = some (.int .u8 (xs.getD k 0)) := by
  simp [row, h]
theorem row_zero : #[Value.int .u8 0, .int .u8 0, .int .u8 0, .int .u8 0, .int .u8 0, .int .u8 0, .int .u8 0, .int .u8 0, .int .u8 0, .int .u8 0, .int .u8 0, .int .u8 0, .int .u8 0, .int .u8 0, .int .u8 0, .int .u8 0, .int .u8 0, .int .u8 0, .int .u8 0, .int .u8 0] = row (List.replicate 20 0) := rfl

/-- the digits of a number: not empty, at most 20, all digits, no leading zero unless it is the one digit -/
def NumL (l : List UInt8) : Prop := 1 ≤ l.length ∧ l.length ≤ 20 ∧ (∀ j, j < l.length → isDig (bat l j) = true) ∧ (1 < l.length → bat l 0 ≠ 48)

/-- the loop's step, on numbers alone -/
theorem itoa_step (n k v : Nat) (xs : List Int) (hpos : 0 < n) (hk : k ≤ 20) (hk0 : 1 ≤ k) (hxs : xs.length = 20) (hn : n < 10 ^ k) (hnv : n ≤ v)
    (hd : ∀ j, k ≤ j → j < 20 → 48 ≤ xs.getD j 0 ∧ xs.getD j 0 ≤ 57) :
    k - 1 ≤ 20 ∧ (xs.set (k - 1) (48 + (n : Int) % 10)).length = 20 ∧ n / 10 < 10 ^ (k - 1) ∧ n / 10 ≤ v ∧
    (∀ j, k - 1 ≤ j → j < 20 → 48 ≤ (xs.set (k - 1) (48 + (n : Int) % 10)).getD j 0 ∧ (xs.set (k - 1) (48 + (n : Int) % 10)).getD j 0 ≤ 57) ∧
    (n / 10 = 0 → k - 1 < 20 ∧ (xs.set (k - 1) (48 + (n : Int) % 10)).getD (k - 1) 0 ≠ 48) := by
  obtain ⟨m, rfl⟩ : ∃ m, k = m + 1 := ⟨k - 1, by omega⟩
  have e : m + 1 - 1 = m := by omega
  rw [e]
  refine ⟨by omega, by simp [hxs], ?_, by omega, ?_, ?_⟩
  · rw [Nat.pow_succ] at hn; omega
  · intro j h1 h2
    rw [List.getD_eq_getElem?_getD, List.getElem?_set]
    by_cases hj : m = j
    · subst hj; simp [hxs, h2]; omega
    · rw [if_neg hj, ← List.getD_eq_getElem?_getD]; exact hd j (by omega) h2
  · intro h0
    refine ⟨by omega, ?_⟩
    rw [List.getD_eq_getElem?_getD, List.getElem?_set]
    simp [hxs, show m < 20 by omega]; omega

theorem itoa_num (k : Nat) (xs : List Int) (hk : k < 20) (hxs : xs.length = 20) (hd : ∀ j, k ≤ j → j < 20 → 48 ≤ xs.getD j 0 ∧ xs.getD j 0 ≤ 57) (hz : xs.getD k 0 ≠ 48) : NumL (L (strOfNums (xs.drop k))) := by
  have hb : ∀ j, j < 20 - k → bat (L (strOfNums (xs.drop k))) j = xs.getD (k + j) 0 := by
    intro j hj
    have hj' := hd (k + j) (by omega) (by omega)
    rw [bat_L _ _ (by rw [strOfNums_size]; simp [hxs]; omega)]
    have : (strOfNums (xs.drop k))[j]'(by rw [strOfNums_size]; simp [hxs]; omega) = UInt8.ofNat (xs.getD (k + j) 0).toNat := by
      simp [strOfNums, ByteArray.getElem_eq_getElem_data, List.getD_eq_getElem?_getD, List.getElem?_eq_getElem (show k + j < xs.length by omega)]
    rw [this, UInt8.toNat_ofNat']
    omega
  have hlen : (L (strOfNums (xs.drop k))).length = 20 - k := by rw [L_len, strOfNums_size]; simp [hxs]
  refine ⟨by omega, by omega, ?_, ?_⟩
  · intro j hj
    have hj' := hd (k + j) (by omega) (by omega)
    rw [hb j (by omega)]
    simp only [isDig, hj'.1, hj'.2]; rfl
  · intro _
    rw [hb 0 (by omega)]; exact hz

theorem arr50 : Try.prog.arrayLen 50 = 20 := by kernel_rfl
theorem elem50 : Try.prog.elem 50 = 5 := by kernel_rfl
theorem size5 (w : World) : (sizeOf 5).run Try.prog w = .ok 1 w := by kernel_rfl
theorem slice_row (b k : Nat) (w : World) (h : k < 20) : (Instr.sliceAt 50 (.pointer (some ⟨b, 0, none⟩)) (some (.int .i64 k)) none none).run Try.prog w = .ok (.slice (some ⟨b, k, none⟩) (20 - k) (20 - k)) w := by
  rw [run_sliceAt_array_l w 50 _ (by rw [arr50, elem50]; exact Try.underlying50) .i64 k (by omega) (by rw [arr50]; omega), elem50, size5]
  have : ¬ 20 = k := by omega
  simp [Result.andThen, slicedAt, arr50, this, Addr.add]; omega

set_option maxHeartbeats 400000 in
/-- hItoa at a number above 0, function 24 -/
theorem hItoa_pos (v : Nat) (hv : 0 < v) (hv2 : v ≤ 18446744073709551615) (w : World) : Calls Try.prog 24 #[.int .u64 v] w fun e w' => ∃ s, e = .returned (.string s) ∧ NumL (L s) ∧ Grown w w' := by
  have hv0 : ((v : Int) == 0) = false := by simp; omega
  have HV : Hid (v < 10 ^ 20) := by show v < 10 ^ 20; omega
  go_enter Try.func24, Try.ntmps24
  go_wp2
  go_loopw [0, 4] (fun x y wr => ∃ n k : Nat, ∃ xs : List Int, x = .int .u64 n ∧ y = .int .i64 k ∧ wr = w.alloc (.cells (row xs) 50) ∧ k ≤ 20 ∧ xs.length = 20 ∧ n < 10 ^ k ∧ n ≤ v ∧
    (∀ j, k ≤ j → j < 20 → 48 ≤ xs.getD j 0 ∧ xs.getD j 0 ≤ 57) ∧ (n = 0 → k < 20 ∧ xs.getD k 0 ≠ 48)) (fun x _ _ => (intOf x).toNat)
  case atStart => exact ⟨v, 20, List.replicate 20 0, rfl, rfl, by rw [row_zero], by omega, by simp, HV.out, Nat.le_refl _, by intros; omega, by intros; omega⟩
  case round =>
    obtain ⟨n, k, xs, rfl, rfl, rfl, hk, hxs, hn, hnv, hd, hz⟩ := hrel
    have hrs := row_size xs
    by_cases hpos : 0 < n
    · have hk0 : 1 ≤ k := by
        rcases Nat.eq_zero_or_pos k with h | h
        · subst h; simp at hn; omega
        · exact h
      have R := itoa_step n k v xs hpos hk hk0 hxs hn hnv hd
      have HR : Hid _ := R
      have hz' : (row xs)[k - 1]? = some (.int .u8 (xs.getD (k-1) 0)) := row_get xs (k - 1) (by omega)
      clear hn hd hz R HV
      go_wp2
      go_roundw
      case rel =>
        obtain ⟨r1, r2, r3, r4, r5, r6⟩ := HR.out
        exact ⟨n / 10, k - 1, xs.set (k - 1) (48 + (n : Int) % 10), by go_num, by go_num, by rw [row_set], r1, r2, r3, r4, r5, r6⟩
      case measure => simp [intOf]; omega
    · have hn0 : n = 0 := by omega
      subst hn0
      obtain ⟨hz1, hz2⟩ := hz rfl
      have hnum := itoa_num k xs hz1 hxs hd hz2
      have Hnum : Hid _ := hnum
      clear hnum hz2 hd hn HV hz
      have hsl := slice_row w.heap.size k (w.alloc (.cells (row xs) 50)) hz1
      have hcv := run_convert_bytes_arg (P := Try.prog) (w.alloc (.cells (row xs) 50)) 26 5 Try.underlying26 Try.underlying5 w.heap.size k (20 - k) (20 - k) (xs.drop k) (by simp [hxs]) (fun i hi => by rw [World.cell?_alloc_at _ _ _ _ rfl, row_get xs (k + i) (by omega)]; simp [List.getD_eq_getElem?_getD]) 9 Try.underlying9
      go_wp2
      go_ret
      exact ⟨_, rfl, Hnum.out, (Grown.refl _).alloc _ _⟩

theorem numL_zero : NumL (L ⟨#[48]⟩) := by
  refine ⟨by decide, by decide, ?_, ?_⟩
  · intro j hj
    have : j = 0 := by simp [L] at hj; omega
    subst this; decide
  · intro h; exact absurd h (by decide)
theorem hItoa_zero (w : World) : Calls Try.prog 24 #[.int .u64 0] w fun e w' => ∃ s, e = .returned (.string s) ∧ NumL (L s) ∧ Grown w w' := by
  go_enter Try.func24, Try.ntmps24
  go_wp2
  go_ret
  exact ⟨_, rfl, numL_zero, Grown.refl _⟩
/-- hItoa, function 24, at every uint64 -/
theorem hItoa_any (v : Int) (h0 : 0 ≤ v) (h1 : v ≤ 18446744073709551615) (w : World) : Calls Try.prog 24 #[.int .u64 v] w fun e w' => ∃ s, e = .returned (.string s) ∧ NumL (L s) ∧ Grown w w' := by
  obtain ⟨n, rfl⟩ : ∃ n : Nat, v = n := ⟨v.toNat, by omega⟩
  rcases Nat.eq_zero_or_pos n with h | h
  · subst h; exact hItoa_zero w
  · exact hItoa_pos n h (by omega) w
end Go.Proofs.Qxb6001027a.Walks
