import Derived.Test.Qxb6001027aChecked
import Derived.Test.Qxb6001027aPlain
import Derived.WalkKit
import Derived.ProofKit
namespace Go.Proofs.Qxb6001027a.Walks
open Go.RowKit Go.Proofs.Qxb6001027a.Plain

/-- the bytes of a string -/
def L (t : ByteArray) : List UInt8 := t.data.toList
theorem L_len (t : ByteArray) : (L t).length = t.size := by unfold L; simp
theorem bat_L (t : ByteArray) (k : Nat) (h : k < t.size) : bat (L t) k = ((t[k]'h).toNat : Int) := by
  rw [bat_lt _ _ (by rw [L_len]; exact h)]; rfl

theorem isDig_lo {c : Int} (h1 : c < 48) : isDig c = false := by simp [isDig]; omega
theorem ret_bool {a b : Bool} (h : a = b) : Ending.returned (.bool a) = .returned (.bool b) := by rw [h]
theorem ret_int {k : IntKind} {a b : Int} (h : a = b) : Ending.returned (.int k a) = .returned (.int k b) := by rw [h]

/-- isDigit, function 27 -/
theorem isDigit_any (c : Int) (w : World) : Calls Try.prog 27 #[.int .u8 c] w fun e w' => e = .returned (.bool (isDig c)) ∧ w' = w := by
  go_enter Try.func27, Try.ntmps27
  go_wp2
  · have h : 48 ≤ c := by assumption
    go_ret
    exact ⟨ret_bool (by simp [isDig, h]), rfl⟩
  · have h : c < 48 := by assumption
    go_ret
    exact ⟨ret_bool (isDig_lo h).symm, rfl⟩

/-! the ways of the closure 'digits' -/
theorem way_more (t : ByteArray) (k fr : Nat) (h : k < t.size) (hd : isDig ((t[k]'h).toNat : Int) = true) (hk : dEnd (L t) k = dEnd (L t) fr) : dEnd (L t) (k + 1) = dEnd (L t) fr := by
  rw [← hk]; exact (dEnd_step _ _ (by rw [L_len]; exact h) (by rw [bat_L t k h]; exact hd)).symm
theorem way_stop (t : ByteArray) (k fr : Nat) (h : k < t.size) (hd : isDig ((t[k]'h).toNat : Int) = false) (hk : dEnd (L t) k = dEnd (L t) fr) : k = dEnd (L t) fr := by
  rw [← hk]; exact (dEnd_stop _ _ (by rw [bat_L t k h]; exact hd)).symm
theorem way_past (t : ByteArray) (k fr : Nat) (h : ¬ k < t.size) (hk : dEnd (L t) k = dEnd (L t) fr) : k = dEnd (L t) fr := by
  rw [← hk]; exact (dEnd_past _ _ (by rw [L_len]; omega)).symm
theorem lz_short (t : ByteArray) (k fr : Nat) (hk : k = dEnd (L t) fr) (h : (k : Int) - fr ≤ 1) : lzAt (L t) fr = false := by
  have : ¬ fr + 1 < dEnd (L t) fr := by omega
  simp [lzAt, this]
theorem lz_yes (t : ByteArray) (k fr : Nat) (hf : fr < t.size) (hk : k = dEnd (L t) fr) (h : 1 < (k : Int) - fr) (h0 : (((t[fr]'hf).toNat : Int) == 48) = true) : lzAt (L t) fr = true := by
  have : fr + 1 < dEnd (L t) fr := by omega
  rw [lzAt, bat_L t fr hf, h0]; simp [this]
theorem lz_no (t : ByteArray) (fr : Nat) (hf : fr < t.size) (h0 : (((t[fr]'hf).toNat : Int) == 48) = false) : lzAt (L t) fr = false := by
  rw [lzAt, bat_L t fr hf, h0]; simp

set_option maxHeartbeats 400000 in
/-- the closure 'digits' of repeatCount, function 26: it reads the captured text, and sets the captured flag at a leading zero -/
theorem digits_core (t : ByteArray) (fr bt bl : Nat) (lz : Bool) (w : World) (hs : t.size ≤ maxLen) (hf : fr ≤ t.size)
    (ht : w.cell? ⟨bt, 0, none⟩ = some (.string t)) (hl : w.cell? ⟨bl, 0, none⟩ = some (.bool lz)) (hz : w.frozen? ⟨bl, 0, none⟩ = false) :
    Calls Try.prog 26 #[.int .i64 fr, .pointer (some ⟨bt, 0, none⟩), .pointer (some ⟨bl, 0, none⟩)] w fun e w' => e = .returned (.int .i64 (dEnd (L t) fr)) ∧
      ((lzAt (L t) fr = false ∧ w' = w) ∨ (lzAt (L t) fr = true ∧ w' = w.setCell ⟨bl, 0, none⟩ (.bool true))) := by
  unfold maxLen at hs
  go_enter Try.func26, Try.ntmps26
  go_wp2
  go_loop [5] (fun i => ∃ k : Nat, fr ≤ k ∧ k ≤ t.size ∧ i = .int .i64 k ∧ dEnd (L t) k = dEnd (L t) fr) (fun i => t.size - (intOf i).toNat)
  case atStart => exact ⟨fr, Nat.le_refl _, hf, rfl, rfl⟩
  case round =>
    obtain ⟨k, hk1, hk2, rfl, hd0⟩ := hrel
    have hd : Hid (dEnd (L t) k = dEnd (L t) fr) := hd0
    clear hd0
    by_cases hlt : k < t.size
    · go_wp2_with (go_at_call 27; refine (isDigit_any _ _).mono ?_; rintro e w' ⟨rfl, rfl⟩)
      · have h1 : isDig ((t[k]'hlt).toNat : Int) = true := by assumption
        go_round
        case rel => exact ⟨k + 1, by omega, by omega, by go_num, way_more t k fr hlt h1 hd.out⟩
        case measure => simp [intOf]; omega
      · have h1 : isDig ((t[k]'hlt).toNat : Int) = false := by assumption
        have hk := way_stop t k fr hlt h1 hd.out
        have h2 : 1 < (k : Int) - fr := by assumption
        have h3 : fr < t.size := by assumption
        have h4 : (((t[fr]'h3).toNat : Int) == 48) = true := by assumption
        go_ret
        exact ⟨ret_int (by omega), .inr ⟨lz_yes t k fr h3 hk h2 h4, rfl⟩⟩
      · have h1 : isDig ((t[k]'hlt).toNat : Int) = false := by assumption
        have hk := way_stop t k fr hlt h1 hd.out
        have h3 : fr < t.size := by assumption
        have h4 : (((t[fr]'h3).toNat : Int) == 48) = false := by assumption
        go_ret
        exact ⟨ret_int (by omega), .inl ⟨lz_no t fr h3 h4, rfl⟩⟩
      · have h1 : isDig ((t[k]'hlt).toNat : Int) = false := by assumption
        have hk := way_stop t k fr hlt h1 hd.out
        have h2 : (k : Int) - fr ≤ 1 := by assumption
        go_ret
        exact ⟨ret_int (by omega), .inl ⟨lz_short t k fr hk h2, rfl⟩⟩
    · have hk := way_past t k fr hlt hd.out
      have hk' : Hid (k = dEnd (L t) fr) := hk
      clear hk
      go_wp2
      · have h2 : 1 < (k : Int) - fr := by assumption
        have h3 : fr < t.size := by assumption
        have h4 : (((t[fr]'h3).toNat : Int) == 48) = true := by assumption
        go_ret
        exact ⟨ret_int (by have := hk'.out; omega), .inr ⟨lz_yes t k fr h3 hk'.out h2 h4, rfl⟩⟩
      · have h3 : fr < t.size := by assumption
        have h4 : (((t[fr]'h3).toNat : Int) == 48) = false := by assumption
        go_ret
        exact ⟨ret_int (by have := hk'.out; omega), .inl ⟨lz_no t fr h3 h4, rfl⟩⟩
      · have h2 : (k : Int) - fr ≤ 1 := by assumption
        go_ret
        exact ⟨ret_int (by have := hk'.out; omega), .inl ⟨lz_short t k fr hk'.out h2, rfl⟩⟩
theorem digits_no (t : ByteArray) (fr bt bl : Nat) (lz : Bool) (w : World) (hs : t.size ≤ maxLen) (hf : fr ≤ t.size)
    (ht : w.cell? ⟨bt, 0, none⟩ = some (.string t)) (hl : w.cell? ⟨bl, 0, none⟩ = some (.bool lz)) (hz : w.frozen? ⟨bl, 0, none⟩ = false) (h : lzAt (L t) fr = false) :
    Calls Try.prog 26 #[.int .i64 fr, .pointer (some ⟨bt, 0, none⟩), .pointer (some ⟨bl, 0, none⟩)] w fun e w' => e = .returned (.int .i64 (dEnd (L t) fr)) ∧ w' = w :=
  (digits_core t fr bt bl lz w hs hf ht hl hz).mono fun e w' ⟨h1, h2⟩ => ⟨h1, by rcases h2 with ⟨_, h3⟩ | ⟨h3, _⟩; exact h3; rw [h] at h3; cases h3⟩
theorem digits_yes (t : ByteArray) (fr bt bl : Nat) (lz : Bool) (w : World) (hs : t.size ≤ maxLen) (hf : fr ≤ t.size)
    (ht : w.cell? ⟨bt, 0, none⟩ = some (.string t)) (hl : w.cell? ⟨bl, 0, none⟩ = some (.bool lz)) (hz : w.frozen? ⟨bl, 0, none⟩ = false) (h : lzAt (L t) fr = true) :
    Calls Try.prog 26 #[.int .i64 fr, .pointer (some ⟨bt, 0, none⟩), .pointer (some ⟨bl, 0, none⟩)] w fun e w' => e = .returned (.int .i64 (dEnd (L t) fr)) ∧ w' = w.setCell ⟨bl, 0, none⟩ (.bool true) :=
  (digits_core t fr bt bl lz w hs hf ht hl hz).mono fun e w' ⟨h1, h2⟩ => ⟨h1, by rcases h2 with ⟨h3, _⟩ | ⟨_, h3⟩; rw [h] at h3; cases h3; exact h3⟩

/-- repeatCount's world: the text and the flag, each in a block of its own -/
theorem digits_in (t : ByteArray) (fr : Nat) (lz : Bool) (w : World) (hs : t.size ≤ maxLen) (hf : fr ≤ t.size) :
    Calls Try.prog 26 #[.int .i64 fr, .pointer (some ⟨w.heap.size, 0, none⟩), .pointer (some ⟨w.heap.size + 1, 0, none⟩)] ((w.alloc (.cells #[.string t] 9)).alloc (.cells #[.bool lz] 4)) fun e w' =>
      e = .returned (.int .i64 (dEnd (L t) fr)) ∧ w' = (w.alloc (.cells #[.string t] 9)).alloc (.cells #[.bool (lz || lzAt (L t) fr)] 4) := by
  refine (digits_core t fr w.heap.size (w.heap.size + 1) lz _ hs hf (by go_simp) (by go_simp) (by go_simp)).mono ?_
  rintro e w' ⟨h1, h2⟩
  refine ⟨h1, ?_⟩
  rcases h2 with ⟨h3, h4⟩ | ⟨h3, h4⟩
  · rw [h4, h3]; simp
  · rw [h4, h3]; go_simp

theorem digits_at (t : ByteArray) (fr : Nat) (n : Int) (hn : n = fr) (lz : Bool) (w : World) (hs : t.size ≤ maxLen) (hf : fr ≤ t.size) :
    Calls Try.prog 26 #[.int .i64 n, .pointer (some ⟨w.heap.size, 0, none⟩), .pointer (some ⟨w.heap.size + 1, 0, none⟩)] ((w.alloc (.cells #[.string t] 9)).alloc (.cells #[.bool lz] 4)) fun e w' =>
      e = .returned (.int .i64 (dEnd (L t) fr)) ∧ w' = (w.alloc (.cells #[.string t] 9)).alloc (.cells #[.bool (lz || lzAt (L t) fr)] 4) := by
  subst hn; exact digits_in t fr lz w hs hf

end Go.Proofs.Qxb6001027a.Walks
