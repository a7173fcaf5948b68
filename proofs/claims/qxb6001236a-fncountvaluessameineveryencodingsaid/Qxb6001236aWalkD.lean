import Derived.Test.Qxb6001236aWalkC
namespace Go.Proofs.Qxb6001236a.Walks
open Go.RowKit Go.Proofs.Qxb6001236a.Plain Go.Sort
set_option linter.unusedVariables false

section
variable (w : World) (o o1 o2 : Obj) (C : Array Value) (n c : Nat)
theorem kc1 : (convert 22 22 (.slice (some ⟨w.heap.size + 1, 0, none⟩) n c)).run Try.prog ((w.alloc o).alloc (.cells C 5)) = .ok (.slice (some ⟨w.heap.size + 1, 0, none⟩) n c) ((w.alloc o).alloc (.cells C 5 (C.size, C.size + 1))) := by
  have := Lib.run_convert_bytes_const (P := Try.prog) (w.alloc o) 22 5 C n c Try.underlying22 Try.underlying5
  simpa using this
theorem kc2 : (convert 22 22 (.slice (some ⟨w.heap.size + 1 + 1, 0, none⟩) n c)).run Try.prog (((w.alloc o).alloc o1).alloc (.cells C 5)) = .ok (.slice (some ⟨w.heap.size + 1 + 1, 0, none⟩) n c) (((w.alloc o).alloc o1).alloc (.cells C 5 (C.size, C.size + 1))) := by
  have := Lib.run_convert_bytes_const (P := Try.prog) ((w.alloc o).alloc o1) 22 5 C n c Try.underlying22 Try.underlying5
  simpa using this
theorem kc3 : (convert 22 22 (.slice (some ⟨w.heap.size + 1 + 1 + 1, 0, none⟩) n c)).run Try.prog ((((w.alloc o).alloc o1).alloc o2).alloc (.cells C 5)) = .ok (.slice (some ⟨w.heap.size + 1 + 1 + 1, 0, none⟩) n c) ((((w.alloc o).alloc o1).alloc o2).alloc (.cells C 5 (C.size, C.size + 1))) := by
  have := Lib.run_convert_bytes_const (P := Try.prog) (((w.alloc o).alloc o1).alloc o2) 22 5 C n c Try.underlying22 Try.underlying5
  simpa using this
end

theorem hp1 (b len cap : Nat) (ds : List Int) (w : World) (hB : Book w b len cap ds) (o0 : Obj) :
    Calls Try.prog 28 #[.slice (some ⟨b, 0, none⟩) len cap, .slice (some ⟨w.heap.size + 1, 0, none⟩) 2 2] ((w.alloc o0).alloc (.cells #[.int .u8 255, .int .u8 254] 5 (2, 3))) fun e w' => e = .returned (.bool (P1 ds)) ∧ w' = (w.alloc o0).alloc (.cells #[.int .u8 255, .int .u8 254] 5 (2, 3)) := by
  have hs : (w.alloc o0).heap.size = w.heap.size + 1 := by simp
  have hb : Below w.heap.size w ((w.alloc o0).alloc (.cells #[.int .u8 255, .int .u8 254] 5 (2, 3))) := (((Below.refl _ _).alloc (by simp) _).alloc (by simp <;> omega) _)
  have := hasPrefix_any b len cap (w.heap.size + 1) 2 2 ds [255, 254] ((w.alloc o0).alloc (.cells #[.int .u8 255, .int .u8 254] 5 (2, 3))) (hB.later hb) (by omega) rfl (fun i hi => by
    rw [← hs, World.cell?_alloc_mark]
    match i, hi with
    | 0, _ => rfl
    | 1, _ => rfl) (by decide)
  rw [P1_is] at this
  exact this
theorem hp2 (b len cap : Nat) (ds : List Int) (w : World) (hB : Book w b len cap ds) (o0 o1 : Obj) :
    Calls Try.prog 28 #[.slice (some ⟨b, 0, none⟩) len cap, .slice (some ⟨w.heap.size + 1 + 1, 0, none⟩) 2 2] (((w.alloc o0).alloc o1).alloc (.cells #[.int .u8 254, .int .u8 255] 5 (2, 3))) fun e w' => e = .returned (.bool (P2 ds)) ∧ w' = ((w.alloc o0).alloc o1).alloc (.cells #[.int .u8 254, .int .u8 255] 5 (2, 3)) := by
  have hs : ((w.alloc o0).alloc o1).heap.size = w.heap.size + 1 + 1 := by simp
  have hb : Below w.heap.size w (((w.alloc o0).alloc o1).alloc (.cells #[.int .u8 254, .int .u8 255] 5 (2, 3))) := ((((Below.refl _ _).alloc (by simp) _).alloc (by simp <;> omega) _).alloc (by simp <;> omega) _)
  have := hasPrefix_any b len cap (w.heap.size + 1 + 1) 2 2 ds [254, 255] (((w.alloc o0).alloc o1).alloc (.cells #[.int .u8 254, .int .u8 255] 5 (2, 3))) (hB.later hb) (by omega) rfl (fun i hi => by
    rw [← hs, World.cell?_alloc_mark]
    match i, hi with
    | 0, _ => rfl
    | 1, _ => rfl) (by decide)
  rw [P2_is] at this
  exact this
theorem hp3 (b len cap : Nat) (ds : List Int) (w : World) (hB : Book w b len cap ds) (o0 o1 o2 : Obj) :
    Calls Try.prog 28 #[.slice (some ⟨b, 0, none⟩) len cap, .slice (some ⟨w.heap.size + 1 + 1 + 1, 0, none⟩) 3 3] ((((w.alloc o0).alloc o1).alloc o2).alloc (.cells #[.int .u8 239, .int .u8 187, .int .u8 191] 5 (3, 4))) fun e w' => e = .returned (.bool (P3 ds)) ∧ w' = (((w.alloc o0).alloc o1).alloc o2).alloc (.cells #[.int .u8 239, .int .u8 187, .int .u8 191] 5 (3, 4)) := by
  have hs : (((w.alloc o0).alloc o1).alloc o2).heap.size = w.heap.size + 1 + 1 + 1 := by simp
  have hb : Below w.heap.size w ((((w.alloc o0).alloc o1).alloc o2).alloc (.cells #[.int .u8 239, .int .u8 187, .int .u8 191] 5 (3, 4))) := (((((Below.refl _ _).alloc (by simp) _).alloc (by simp <;> omega) _).alloc (by simp <;> omega) _).alloc (by simp <;> omega) _)
  have := hasPrefix_any b len cap (w.heap.size + 1 + 1 + 1) 3 3 ds [239, 187, 191] ((((w.alloc o0).alloc o1).alloc o2).alloc (.cells #[.int .u8 239, .int .u8 187, .int .u8 191] 5 (3, 4))) (hB.later hb) (by omega) rfl (fun i hi => by
    rw [← hs, World.cell?_alloc_mark]
    match i, hi with
    | 0, _ => rfl
    | 1, _ => rfl
    | 2, _ => rfl) (by decide)
  rw [P3_is] at this
  exact this

theorem units_eq {a : Option Addr} {len cap : Nat} {x y z x' y' z' : Int} (h1 : x = x') (h2 : y = y') (h3 : z = z') : Ending.returned (.agg #[.slice a len cap, .int .i64 x, .int .i64 y, .int .i64 z]) = .returned (.agg #[.slice a len cap, .int .i64 x', .int .i64 y', .int .i64 z']) := by rw [h1, h2, h3]

set_option maxHeartbeats 800000 in
/-- unitsOf, function 24, at a book -/
theorem unitsOf_any (b len cap : Nat) (ds : List Int) (w : World) (hB : Book w b len cap ds) :
    Calls Try.prog 24 #[.slice (some ⟨b, 0, none⟩) len cap] w fun e w' => e = .returned (.agg #[.slice (some ⟨b, 0, none⟩) len cap, .int .i64 (uSt ds), .int .i64 (uSz ds), .int .i64 (uLo ds)]) ∧ Below w.heap.size w w' := by
  have k1 := kc1 w
  have k2 := kc2 w
  have k3 := kc3 w
  have HB : Hid (Book w b len cap ds) := hB
  clear hB
  cases q1 : P1 ds with
  | true =>
    have H1 : Hid (P1 ds = true) := q1
    clear q1
    go_enter Try.func24, Try.ntmps24
    go_wp2_with fail
    refine (hp1 b len cap ds w HB.out _).mono ?_
    rintro e w' ⟨rfl, rfl⟩
    rw [H1.out]
    go_wp2_with fail
    refine bodyPost_ret (v := .agg #[.slice (some ⟨b, 0, none⟩) len cap, .int .i64 2, .int .i64 2, .int .i64 0]) (by simp [results, Try.results24, go_sem]) rfl ⟨units_eq ?_ ?_ ?_, ?_⟩
    · have := H1.out; simp [uSt, this]
    · have := H1.out; simp [uSz, this]
    · have := H1.out; simp [uLo, this]
    · exact (((Below.refl _ _).alloc (by simp) _).alloc (by simp <;> omega) _)
  | false =>
    have H1 : Hid (P1 ds = false) := q1
    clear q1
    cases q2 : P2 ds with
    | true =>
      have H2 : Hid (P2 ds = true) := q2
      clear q2
      go_enter Try.func24, Try.ntmps24
      go_wp2_with fail
      refine (hp1 b len cap ds w HB.out _).mono ?_
      rintro e w' ⟨rfl, rfl⟩
      rw [H1.out]
      go_wp2_with fail
      refine (hp2 b len cap ds w HB.out _ _).mono ?_
      rintro e w' ⟨rfl, rfl⟩
      rw [H2.out]
      go_wp2_with fail
      refine bodyPost_ret (v := .agg #[.slice (some ⟨b, 0, none⟩) len cap, .int .i64 2, .int .i64 2, .int .i64 1]) (by simp [results, Try.results24, go_sem]) rfl ⟨units_eq ?_ ?_ ?_, ?_⟩
      · have := H1.out; have := H2.out; simp [uSt, *]
      · have := H1.out; have := H2.out; simp [uSz, *]
      · have := H1.out; have := H2.out; simp [uLo, *]
      · exact ((((Below.refl _ _).alloc (by simp) _).alloc (by simp <;> omega) _).alloc (by simp <;> omega) _)
    | false =>
      have H2 : Hid (P2 ds = false) := q2
      clear q2
      cases q3 : P3 ds with
      | true =>
        have H3 : Hid (P3 ds = true) := q3
        clear q3
        go_enter Try.func24, Try.ntmps24
        go_wp2_with fail
        refine (hp1 b len cap ds w HB.out _).mono ?_
        rintro e w' ⟨rfl, rfl⟩
        rw [H1.out]
        go_wp2_with fail
        refine (hp2 b len cap ds w HB.out _ _).mono ?_
        rintro e w' ⟨rfl, rfl⟩
        rw [H2.out]
        go_wp2_with fail
        refine (hp3 b len cap ds w HB.out _ _ _).mono ?_
        rintro e w' ⟨rfl, rfl⟩
        rw [H3.out]
        go_wp2_with fail
        refine bodyPost_ret (v := .agg #[.slice (some ⟨b, 0, none⟩) len cap, .int .i64 3, .int .i64 1, .int .i64 0]) (by simp [results, Try.results24, go_sem]) rfl ⟨units_eq ?_ ?_ ?_, ?_⟩
        · have := H1.out; have := H2.out; have := H3.out; simp [uSt, *]
        · have := H1.out; have := H2.out; simp [uSz, *]
        · have := H1.out; have := H2.out; simp [uLo, *]
        · exact (((((Below.refl _ _).alloc (by simp) _).alloc (by simp <;> omega) _).alloc (by simp <;> omega) _).alloc (by simp <;> omega) _)
      | false =>
        have H3 : Hid (P3 ds = false) := q3
        clear q3
        go_enter Try.func24, Try.ntmps24
        go_wp2_with fail
        refine (hp1 b len cap ds w HB.out _).mono ?_
        rintro e w' ⟨rfl, rfl⟩
        rw [H1.out]
        go_wp2_with fail
        refine (hp2 b len cap ds w HB.out _ _).mono ?_
        rintro e w' ⟨rfl, rfl⟩
        rw [H2.out]
        go_wp2_with fail
        refine (hp3 b len cap ds w HB.out _ _ _).mono ?_
        rintro e w' ⟨rfl, rfl⟩
        rw [H3.out]
        go_wp2_with fail
        refine bodyPost_ret (v := .agg #[.slice (some ⟨b, 0, none⟩) len cap, .int .i64 0, .int .i64 1, .int .i64 0]) (by simp [results, Try.results24, go_sem]) rfl ⟨units_eq ?_ ?_ ?_, ?_⟩
        · have := H1.out; have := H2.out; have := H3.out; simp [uSt, *]
        · have := H1.out; have := H2.out; simp [uSz, *]
        · have := H1.out; have := H2.out; simp [uLo, *]
        · exact (((((Below.refl _ _).alloc (by simp) _).alloc (by simp <;> omega) _).alloc (by simp <;> omega) _).alloc (by simp <;> omega) _)

set_option maxHeartbeats 400000 in
/-- unitsOf, function 24, at an empty book, nil or not -/
theorem unitsOf_empty (a : Option Addr) (cap : Nat) (w : World) :
    Calls Try.prog 24 #[.slice a 0 cap] w fun e w' => e = .returned (.agg #[.slice a 0 cap, .int .i64 0, .int .i64 1, .int .i64 0]) ∧ Below w.heap.size w w' := by
  have k1 := kc1 w
  have k2 := kc2 w
  have k3 := kc3 w
  go_enter Try.func24, Try.ntmps24
  go_wp2_with (go_at_call 28; refine (hasPrefix_short _ _ _ _ _ _ (by omega) _).mono ?_; rintro e w' ⟨rfl, rfl⟩)
  refine bodyPost_ret (v := .agg #[.slice a 0 cap, .int .i64 0, .int .i64 1, .int .i64 0]) (by simp [results, Try.results24, go_sem]) rfl ⟨rfl, ?_⟩
  exact ((((Below.refl _ _).alloc (by simp) _).alloc (by simp <;> omega) _).alloc (by simp <;> omega) _).alloc (by simp <;> omega) _
end Go.Proofs.Qxb6001236a.Walks
