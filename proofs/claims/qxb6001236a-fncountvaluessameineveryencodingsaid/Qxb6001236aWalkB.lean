import Derived.Test.Qxb6001236aWalkA
namespace Go.Proofs.Qxb6001236a.Walks
open Go.RowKit Go.Proofs.Qxb6001236a.Plain Go.Sort
set_option linter.unusedVariables false

set_option maxHeartbeats 800000 in
theorem ascii_lo10 (b len cap st i off : Nat) (c : Int) (w : World) (ho : st + i * 1 + 0 = off) (hol : off < len) (hc : w.cell? ⟨b, off, none⟩ = some (.int .u8 c)) (h2 : len ≤ 4194304) (h1 : st ≤ len) (h3 : st ≤ 3) (hi : i < uN len st 1) (hbw : b < w.heap.size) (hc7 : c < 128) :
    Calls Try.prog 27 #[.agg #[.slice (some ⟨b, 0, none⟩) len cap, .int .i64 st, .int .i64 1, .int .i64 0], .int .i64 i] w fun e w' => e = .returned (.int .u8 c) ∧ Below w.heap.size w w' := by
  have hi4 : i ≤ 4194304 := by omega
  have hof : 0 ≤ off := by omega
  go_enter Try.func27, Try.ntmps27
  go_wp2_with fail
  refine (len_any (some ⟨b, 0, none⟩) len cap st 1 0 (.inl rfl) h1 h2 _).mono ?_
  rintro e w' ⟨rfl, hb⟩
  obtain ⟨c0, c1, c2, c3⟩ := box_cells hb
  have c4 := old_cell hb hbw hc
  have k0 := cell_regrown c0
  have k1 := cell_regrown c1
  have k2 := cell_regrown c2
  have k3 := cell_regrown c3
  have k4 := cell_regrown c4
  have cO := off_all (some ⟨b, 0, none⟩) len cap st 1 0 i off (.inl rfl) h3 (by omega) (by omega) ho w'
  have g1 : (off : Int) < (len : Int) := by omega
  clear ho
  go_wp2_with fail
  refine wp_region_quiet_below mixed (by kernel_rfl) ?_
  repeat (go_big_quiet_step (first | exact cO _ _))
  refine wpQuiet_nil ?_
  intro _ hw'
  obtain ⟨⟨dq, osq⟩, hw''⟩ := hw'
  subst hw''
  have hb2 : Below w'.heap.size w' (grow (redrawn w' dq) osq) := below_regrown w' dq osq
  clear k0 k1 k2 k3 k4 cO
  generalize grow (redrawn w' dq) osq = w2 at hb2 ⊢
  have hb3 := below_box hb hb2
  have k0 := cell_regrown (kept_cell hb2 c0)
  have k1 := cell_regrown (kept_cell hb2 c1)
  have k2 := cell_regrown (kept_cell hb2 c2)
  have k3 := cell_regrown (kept_cell hb2 c3)
  clear hb hb2 c0 c1 c2 c3 c4
  have hd : decide (128 ≤ c) = false := by simpa using hc7
  go_wp2_with fail
  refine wp_region_quiet_below mixed (by kernel_rfl) ?_
  repeat (go_big_quiet_step (fail))
  refine wpQuiet_nil ?_
  intro _ hw'
  obtain ⟨⟨dq, osq⟩, hw''⟩ := hw'
  subst hw''
  have hb4 := hb3.trans ((below_regrown w2 dq osq).mono hb3.size)
  go_wp2_with fail
  go_ret
  exact ⟨rfl, hb4⟩

set_option maxHeartbeats 800000 in
theorem ascii_hi10 (b len cap st i off : Nat) (c : Int) (w : World) (ho : st + i * 1 + 0 = off) (hol : off < len) (hc : w.cell? ⟨b, off, none⟩ = some (.int .u8 c)) (h2 : len ≤ 4194304) (h1 : st ≤ len) (h3 : st ≤ 3) (hi : i < uN len st 1) (hbw : b < w.heap.size) (hc7 : 128 ≤ c) :
    Calls Try.prog 27 #[.agg #[.slice (some ⟨b, 0, none⟩) len cap, .int .i64 st, .int .i64 1, .int .i64 0], .int .i64 i] w fun e w' => e = .returned (.int .u8 128) ∧ Below w.heap.size w w' := by
  have hi4 : i ≤ 4194304 := by omega
  have hof : 0 ≤ off := by omega
  go_enter Try.func27, Try.ntmps27
  go_wp2_with fail
  refine (len_any (some ⟨b, 0, none⟩) len cap st 1 0 (.inl rfl) h1 h2 _).mono ?_
  rintro e w' ⟨rfl, hb⟩
  obtain ⟨c0, c1, c2, c3⟩ := box_cells hb
  have c4 := old_cell hb hbw hc
  have k0 := cell_regrown c0
  have k1 := cell_regrown c1
  have k2 := cell_regrown c2
  have k3 := cell_regrown c3
  have k4 := cell_regrown c4
  have cO := off_all (some ⟨b, 0, none⟩) len cap st 1 0 i off (.inl rfl) h3 (by omega) (by omega) ho w'
  have g1 : (off : Int) < (len : Int) := by omega
  clear ho
  go_wp2_with fail
  refine wp_region_quiet_below mixed (by kernel_rfl) ?_
  repeat (go_big_quiet_step (first | exact cO _ _))
  refine wpQuiet_nil ?_
  intro _ hw'
  obtain ⟨⟨dq, osq⟩, hw''⟩ := hw'
  subst hw''
  have hb2 : Below w'.heap.size w' (grow (redrawn w' dq) osq) := below_regrown w' dq osq
  clear k0 k1 k2 k3 k4 cO
  generalize grow (redrawn w' dq) osq = w2 at hb2 ⊢
  have hb3 := below_box hb hb2
  have k0 := cell_regrown (kept_cell hb2 c0)
  have k1 := cell_regrown (kept_cell hb2 c1)
  have k2 := cell_regrown (kept_cell hb2 c2)
  have k3 := cell_regrown (kept_cell hb2 c3)
  clear hb hb2 c0 c1 c2 c3 c4
  have hd : decide (128 ≤ c) = true := by simpa using hc7
  go_wp2_with fail
  refine wp_region_quiet_below mixed (by kernel_rfl) ?_
  repeat (go_big_quiet_step (fail))
  refine wpQuiet_nil ?_
  intro _ hw'
  obtain ⟨⟨dq, osq⟩, hw''⟩ := hw'
  subst hw''
  have hb4 := hb3.trans ((below_regrown w2 dq osq).mono hb3.size)
  go_wp2_with fail
  go_ret
  exact ⟨rfl, hb4⟩

set_option maxHeartbeats 800000 in
theorem ascii_hi20 (b len cap st i off : Nat) (c : Int) (w : World) (ho : st + i * 2 + 0 = off) (hol : off < len) (hc : w.cell? ⟨b, off, none⟩ = some (.int .u8 c)) (h2 : len ≤ 4194304) (h1 : st ≤ len) (h3 : st ≤ 3) (hi : i < uN len st 2) (hbw : b < w.heap.size) (hc7 : 128 ≤ c) :
    Calls Try.prog 27 #[.agg #[.slice (some ⟨b, 0, none⟩) len cap, .int .i64 st, .int .i64 2, .int .i64 0], .int .i64 i] w fun e w' => e = .returned (.int .u8 128) ∧ Below w.heap.size w w' := by
  have hi4 : i ≤ 4194304 := by omega
  have hof : 0 ≤ off := by omega
  go_enter Try.func27, Try.ntmps27
  go_wp2_with fail
  refine (len_any (some ⟨b, 0, none⟩) len cap st 2 0 (.inr rfl) h1 h2 _).mono ?_
  rintro e w' ⟨rfl, hb⟩
  obtain ⟨c0, c1, c2, c3⟩ := box_cells hb
  have c4 := old_cell hb hbw hc
  have k0 := cell_regrown c0
  have k1 := cell_regrown c1
  have k2 := cell_regrown c2
  have k3 := cell_regrown c3
  have k4 := cell_regrown c4
  have cO := off_all (some ⟨b, 0, none⟩) len cap st 2 0 i off (.inr rfl) h3 (by omega) (by omega) ho w'
  have g1 : (off : Int) < (len : Int) := by omega
  clear ho
  go_wp2_with fail
  refine wp_region_quiet_below mixed (by kernel_rfl) ?_
  repeat (go_big_quiet_step (first | exact cO _ _))
  refine wpQuiet_nil ?_
  intro _ hw'
  obtain ⟨⟨dq, osq⟩, hw''⟩ := hw'
  subst hw''
  have hb2 : Below w'.heap.size w' (grow (redrawn w' dq) osq) := below_regrown w' dq osq
  clear k0 k1 k2 k3 k4 cO
  generalize grow (redrawn w' dq) osq = w2 at hb2 ⊢
  have hb3 := below_box hb hb2
  have k0 := cell_regrown (kept_cell hb2 c0)
  have k1 := cell_regrown (kept_cell hb2 c1)
  have k2 := cell_regrown (kept_cell hb2 c2)
  have k3 := cell_regrown (kept_cell hb2 c3)
  clear hb hb2 c0 c1 c2 c3 c4
  have hd : decide (128 ≤ c) = true := by simpa using hc7
  go_wp2_with fail
  refine wp_region_quiet_below mixed (by kernel_rfl) ?_
  repeat (go_big_quiet_step (fail))
  refine wpQuiet_nil ?_
  intro _ hw'
  obtain ⟨⟨dq, osq⟩, hw''⟩ := hw'
  subst hw''
  have hb4 := hb3.trans ((below_regrown w2 dq osq).mono hb3.size)
  go_wp2_with fail
  go_ret
  exact ⟨rfl, hb4⟩

set_option maxHeartbeats 800000 in
theorem ascii_hi21 (b len cap st i off : Nat) (c : Int) (w : World) (ho : st + i * 2 + 1 = off) (hol : off < len) (hc : w.cell? ⟨b, off, none⟩ = some (.int .u8 c)) (h2 : len ≤ 4194304) (h1 : st ≤ len) (h3 : st ≤ 3) (hi : i < uN len st 2) (hbw : b < w.heap.size) (hc7 : 128 ≤ c) :
    Calls Try.prog 27 #[.agg #[.slice (some ⟨b, 0, none⟩) len cap, .int .i64 st, .int .i64 2, .int .i64 1], .int .i64 i] w fun e w' => e = .returned (.int .u8 128) ∧ Below w.heap.size w w' := by
  have hi4 : i ≤ 4194304 := by omega
  have hof : 1 ≤ off := by omega
  go_enter Try.func27, Try.ntmps27
  go_wp2_with fail
  refine (len_any (some ⟨b, 0, none⟩) len cap st 2 1 (.inr rfl) h1 h2 _).mono ?_
  rintro e w' ⟨rfl, hb⟩
  obtain ⟨c0, c1, c2, c3⟩ := box_cells hb
  have c4 := old_cell hb hbw hc
  have k0 := cell_regrown c0
  have k1 := cell_regrown c1
  have k2 := cell_regrown c2
  have k3 := cell_regrown c3
  have k4 := cell_regrown c4
  have cO := off_all (some ⟨b, 0, none⟩) len cap st 2 1 i off (.inr rfl) h3 (by omega) (by omega) ho w'
  have g1 : (off : Int) < (len : Int) := by omega
  clear ho
  go_wp2_with fail
  refine wp_region_quiet_below mixed (by kernel_rfl) ?_
  repeat (go_big_quiet_step (first | exact cO _ _))
  refine wpQuiet_nil ?_
  intro _ hw'
  obtain ⟨⟨dq, osq⟩, hw''⟩ := hw'
  subst hw''
  have hb2 : Below w'.heap.size w' (grow (redrawn w' dq) osq) := below_regrown w' dq osq
  clear k0 k1 k2 k3 k4 cO
  generalize grow (redrawn w' dq) osq = w2 at hb2 ⊢
  have hb3 := below_box hb hb2
  have k0 := cell_regrown (kept_cell hb2 c0)
  have k1 := cell_regrown (kept_cell hb2 c1)
  have k2 := cell_regrown (kept_cell hb2 c2)
  have k3 := cell_regrown (kept_cell hb2 c3)
  clear hb hb2 c0 c1 c2 c3 c4
  have hd : decide (128 ≤ c) = true := by simpa using hc7
  go_wp2_with fail
  refine wp_region_quiet_below mixed (by kernel_rfl) ?_
  repeat (go_big_quiet_step (fail))
  refine wpQuiet_nil ?_
  intro _ hw'
  obtain ⟨⟨dq, osq⟩, hw''⟩ := hw'
  subst hw''
  have hb4 := hb3.trans ((below_regrown w2 dq osq).mono hb3.size)
  go_wp2_with fail
  go_ret
  exact ⟨rfl, hb4⟩

set_option maxHeartbeats 800000 in
theorem ascii_z20 (b len cap st i off : Nat) (c : Int) (w : World) (ho : st + i * 2 + 0 = off) (hol : off < len) (hc : w.cell? ⟨b, off, none⟩ = some (.int .u8 c)) (h2 : len ≤ 4194304) (h1 : st ≤ len) (h3 : st ≤ 3) (hi : i < uN len st 2) (hbw : b < w.heap.size) (hc7 : c < 128) (hol2 : off + 1 < len) (hd0 : w.cell? ⟨b, off + 1, none⟩ = some (.int .u8 0)) :
    Calls Try.prog 27 #[.agg #[.slice (some ⟨b, 0, none⟩) len cap, .int .i64 st, .int .i64 2, .int .i64 0], .int .i64 i] w fun e w' => e = .returned (.int .u8 c) ∧ Below w.heap.size w w' := by
  have hi4 : i ≤ 4194304 := by omega
  have hof : 0 ≤ off := by omega
  go_enter Try.func27, Try.ntmps27
  go_wp2_with fail
  refine (len_any (some ⟨b, 0, none⟩) len cap st 2 0 (.inr rfl) h1 h2 _).mono ?_
  rintro e w' ⟨rfl, hb⟩
  obtain ⟨c0, c1, c2, c3⟩ := box_cells hb
  have c4 := old_cell hb hbw hc
  have c5 := old_cell hb hbw hd0
  have k0 := cell_regrown c0
  have k1 := cell_regrown c1
  have k2 := cell_regrown c2
  have k3 := cell_regrown c3
  have k4 := cell_regrown c4
  have cO := off_all (some ⟨b, 0, none⟩) len cap st 2 0 i off (.inr rfl) h3 (by omega) (by omega) ho w'
  have g1 : (off : Int) < (len : Int) := by omega
  have HO : Hid (st + i * 2 + 0 = off) := ho
  clear ho
  go_wp2_with fail
  refine wp_region_quiet_below mixed (by kernel_rfl) ?_
  repeat (go_big_quiet_step (first | exact cO _ _))
  refine wpQuiet_nil ?_
  intro _ hw'
  obtain ⟨⟨dq, osq⟩, hw''⟩ := hw'
  subst hw''
  have hb2 : Below w'.heap.size w' (grow (redrawn w' dq) osq) := below_regrown w' dq osq
  clear k0 k1 k2 k3 k4 cO
  generalize grow (redrawn w' dq) osq = w2 at hb2 ⊢
  have hb3 := below_box hb hb2
  have k0 := cell_regrown (kept_cell hb2 c0)
  have k1 := cell_regrown (kept_cell hb2 c1)
  have k2 := cell_regrown (kept_cell hb2 c2)
  have k3 := cell_regrown (kept_cell hb2 c3)
  have k5 := cell_regrown (kept_cell hb2 c5)
  have cO := off_all (some ⟨b, 0, none⟩) len cap st 2 0 i off (.inr rfl) h3 (by omega) (by omega) HO.out w2
  have g2 : (off : Int) + 1 < (len : Int) := by omega
  clear hb hb2 c0 c1 c2 c3 c4
  have hd : decide (128 ≤ c) = false := by simpa using hc7
  go_wp2_with fail
  refine wp_region_quiet_below mixed (by kernel_rfl) ?_
  repeat (go_big_quiet_step (first | exact cO _ _))
  refine wpQuiet_nil ?_
  intro _ hw'
  obtain ⟨⟨dq, osq⟩, hw''⟩ := hw'
  subst hw''
  have hb4 := hb3.trans ((below_regrown w2 dq osq).mono hb3.size)
  go_wp2_with fail
  go_ret
  exact ⟨rfl, hb4⟩

set_option maxHeartbeats 800000 in
theorem ascii_nz20 (b len cap st i off : Nat) (c : Int) (w : World) (ho : st + i * 2 + 0 = off) (hol : off < len) (hc : w.cell? ⟨b, off, none⟩ = some (.int .u8 c)) (h2 : len ≤ 4194304) (h1 : st ≤ len) (h3 : st ≤ 3) (hi : i < uN len st 2) (hbw : b < w.heap.size) (hc7 : c < 128) (hol2 : off + 1 < len) (d : Int) (hdn : (d != 0) = true) (hd0 : w.cell? ⟨b, off + 1, none⟩ = some (.int .u8 d)) :
    Calls Try.prog 27 #[.agg #[.slice (some ⟨b, 0, none⟩) len cap, .int .i64 st, .int .i64 2, .int .i64 0], .int .i64 i] w fun e w' => e = .returned (.int .u8 128) ∧ Below w.heap.size w w' := by
  have hi4 : i ≤ 4194304 := by omega
  have hof : 0 ≤ off := by omega
  go_enter Try.func27, Try.ntmps27
  go_wp2_with fail
  refine (len_any (some ⟨b, 0, none⟩) len cap st 2 0 (.inr rfl) h1 h2 _).mono ?_
  rintro e w' ⟨rfl, hb⟩
  obtain ⟨c0, c1, c2, c3⟩ := box_cells hb
  have c4 := old_cell hb hbw hc
  have c5 := old_cell hb hbw hd0
  have k0 := cell_regrown c0
  have k1 := cell_regrown c1
  have k2 := cell_regrown c2
  have k3 := cell_regrown c3
  have k4 := cell_regrown c4
  have cO := off_all (some ⟨b, 0, none⟩) len cap st 2 0 i off (.inr rfl) h3 (by omega) (by omega) ho w'
  have g1 : (off : Int) < (len : Int) := by omega
  have HO : Hid (st + i * 2 + 0 = off) := ho
  clear ho
  go_wp2_with fail
  refine wp_region_quiet_below mixed (by kernel_rfl) ?_
  repeat (go_big_quiet_step (first | exact cO _ _))
  refine wpQuiet_nil ?_
  intro _ hw'
  obtain ⟨⟨dq, osq⟩, hw''⟩ := hw'
  subst hw''
  have hb2 : Below w'.heap.size w' (grow (redrawn w' dq) osq) := below_regrown w' dq osq
  clear k0 k1 k2 k3 k4 cO
  generalize grow (redrawn w' dq) osq = w2 at hb2 ⊢
  have hb3 := below_box hb hb2
  have k0 := cell_regrown (kept_cell hb2 c0)
  have k1 := cell_regrown (kept_cell hb2 c1)
  have k2 := cell_regrown (kept_cell hb2 c2)
  have k3 := cell_regrown (kept_cell hb2 c3)
  have k5 := cell_regrown (kept_cell hb2 c5)
  have cO := off_all (some ⟨b, 0, none⟩) len cap st 2 0 i off (.inr rfl) h3 (by omega) (by omega) HO.out w2
  have g2 : (off : Int) + 1 < (len : Int) := by omega
  clear hb hb2 c0 c1 c2 c3 c4
  have hd : decide (128 ≤ c) = false := by simpa using hc7
  go_wp2_with fail
  refine wp_region_quiet_below mixed (by kernel_rfl) ?_
  repeat (go_big_quiet_step (first | exact cO _ _))
  refine wpQuiet_nil ?_
  intro _ hw'
  obtain ⟨⟨dq, osq⟩, hw''⟩ := hw'
  subst hw''
  have hb4 := hb3.trans ((below_regrown w2 dq osq).mono hb3.size)
  go_wp2_with fail
  go_ret
  exact ⟨rfl, hb4⟩

set_option maxHeartbeats 800000 in
theorem ascii_z21 (b len cap st i off : Nat) (c : Int) (w : World) (ho : st + i * 2 + 1 = off) (hol : off < len) (hc : w.cell? ⟨b, off, none⟩ = some (.int .u8 c)) (h2 : len ≤ 4194304) (h1 : st ≤ len) (h3 : st ≤ 3) (hi : i < uN len st 2) (hbw : b < w.heap.size) (hc7 : c < 128) (hol2 : off - 1 < len) (hd0 : w.cell? ⟨b, off - 1, none⟩ = some (.int .u8 0)) :
    Calls Try.prog 27 #[.agg #[.slice (some ⟨b, 0, none⟩) len cap, .int .i64 st, .int .i64 2, .int .i64 1], .int .i64 i] w fun e w' => e = .returned (.int .u8 c) ∧ Below w.heap.size w w' := by
  have hi4 : i ≤ 4194304 := by omega
  have hof : 1 ≤ off := by omega
  go_enter Try.func27, Try.ntmps27
  go_wp2_with fail
  refine (len_any (some ⟨b, 0, none⟩) len cap st 2 1 (.inr rfl) h1 h2 _).mono ?_
  rintro e w' ⟨rfl, hb⟩
  obtain ⟨c0, c1, c2, c3⟩ := box_cells hb
  have c4 := old_cell hb hbw hc
  have c5 := old_cell hb hbw hd0
  have k0 := cell_regrown c0
  have k1 := cell_regrown c1
  have k2 := cell_regrown c2
  have k3 := cell_regrown c3
  have k4 := cell_regrown c4
  have cO := off_all (some ⟨b, 0, none⟩) len cap st 2 1 i off (.inr rfl) h3 (by omega) (by omega) ho w'
  have g1 : (off : Int) < (len : Int) := by omega
  have HO : Hid (st + i * 2 + 1 = off) := ho
  clear ho
  go_wp2_with fail
  refine wp_region_quiet_below mixed (by kernel_rfl) ?_
  repeat (go_big_quiet_step (first | exact cO _ _))
  refine wpQuiet_nil ?_
  intro _ hw'
  obtain ⟨⟨dq, osq⟩, hw''⟩ := hw'
  subst hw''
  have hb2 : Below w'.heap.size w' (grow (redrawn w' dq) osq) := below_regrown w' dq osq
  clear k0 k1 k2 k3 k4 cO
  generalize grow (redrawn w' dq) osq = w2 at hb2 ⊢
  have hb3 := below_box hb hb2
  have k0 := cell_regrown (kept_cell hb2 c0)
  have k1 := cell_regrown (kept_cell hb2 c1)
  have k2 := cell_regrown (kept_cell hb2 c2)
  have k3 := cell_regrown (kept_cell hb2 c3)
  have k5 := cell_regrown (kept_cell hb2 c5)
  have cO := off_all (some ⟨b, 0, none⟩) len cap st 2 1 i off (.inr rfl) h3 (by omega) (by omega) HO.out w2
  have g2 : 1 ≤ (off : Int) := by omega
  clear hb hb2 c0 c1 c2 c3 c4
  have hd : decide (128 ≤ c) = false := by simpa using hc7
  go_wp2_with fail
  refine wp_region_quiet_below mixed (by kernel_rfl) ?_
  repeat (go_big_quiet_step (first | exact cO _ _))
  refine wpQuiet_nil ?_
  intro _ hw'
  obtain ⟨⟨dq, osq⟩, hw''⟩ := hw'
  subst hw''
  have hb4 := hb3.trans ((below_regrown w2 dq osq).mono hb3.size)
  go_wp2_with fail
  go_ret
  exact ⟨rfl, hb4⟩

set_option maxHeartbeats 800000 in
theorem ascii_nz21 (b len cap st i off : Nat) (c : Int) (w : World) (ho : st + i * 2 + 1 = off) (hol : off < len) (hc : w.cell? ⟨b, off, none⟩ = some (.int .u8 c)) (h2 : len ≤ 4194304) (h1 : st ≤ len) (h3 : st ≤ 3) (hi : i < uN len st 2) (hbw : b < w.heap.size) (hc7 : c < 128) (hol2 : off - 1 < len) (d : Int) (hdn : (d != 0) = true) (hd0 : w.cell? ⟨b, off - 1, none⟩ = some (.int .u8 d)) :
    Calls Try.prog 27 #[.agg #[.slice (some ⟨b, 0, none⟩) len cap, .int .i64 st, .int .i64 2, .int .i64 1], .int .i64 i] w fun e w' => e = .returned (.int .u8 128) ∧ Below w.heap.size w w' := by
  have hi4 : i ≤ 4194304 := by omega
  have hof : 1 ≤ off := by omega
  go_enter Try.func27, Try.ntmps27
  go_wp2_with fail
  refine (len_any (some ⟨b, 0, none⟩) len cap st 2 1 (.inr rfl) h1 h2 _).mono ?_
  rintro e w' ⟨rfl, hb⟩
  obtain ⟨c0, c1, c2, c3⟩ := box_cells hb
  have c4 := old_cell hb hbw hc
  have c5 := old_cell hb hbw hd0
  have k0 := cell_regrown c0
  have k1 := cell_regrown c1
  have k2 := cell_regrown c2
  have k3 := cell_regrown c3
  have k4 := cell_regrown c4
  have cO := off_all (some ⟨b, 0, none⟩) len cap st 2 1 i off (.inr rfl) h3 (by omega) (by omega) ho w'
  have g1 : (off : Int) < (len : Int) := by omega
  have HO : Hid (st + i * 2 + 1 = off) := ho
  clear ho
  go_wp2_with fail
  refine wp_region_quiet_below mixed (by kernel_rfl) ?_
  repeat (go_big_quiet_step (first | exact cO _ _))
  refine wpQuiet_nil ?_
  intro _ hw'
  obtain ⟨⟨dq, osq⟩, hw''⟩ := hw'
  subst hw''
  have hb2 : Below w'.heap.size w' (grow (redrawn w' dq) osq) := below_regrown w' dq osq
  clear k0 k1 k2 k3 k4 cO
  generalize grow (redrawn w' dq) osq = w2 at hb2 ⊢
  have hb3 := below_box hb hb2
  have k0 := cell_regrown (kept_cell hb2 c0)
  have k1 := cell_regrown (kept_cell hb2 c1)
  have k2 := cell_regrown (kept_cell hb2 c2)
  have k3 := cell_regrown (kept_cell hb2 c3)
  have k5 := cell_regrown (kept_cell hb2 c5)
  have cO := off_all (some ⟨b, 0, none⟩) len cap st 2 1 i off (.inr rfl) h3 (by omega) (by omega) HO.out w2
  have g2 : 1 ≤ (off : Int) := by omega
  clear hb hb2 c0 c1 c2 c3 c4
  have hd : decide (128 ≤ c) = false := by simpa using hc7
  go_wp2_with fail
  refine wp_region_quiet_below mixed (by kernel_rfl) ?_
  repeat (go_big_quiet_step (first | exact cO _ _))
  refine wpQuiet_nil ?_
  intro _ hw'
  obtain ⟨⟨dq, osq⟩, hw''⟩ := hw'
  subst hw''
  have hb4 := hb3.trans ((below_regrown w2 dq osq).mono hb3.size)
  go_wp2_with fail
  go_ret
  exact ⟨rfl, hb4⟩
end Go.Proofs.Qxb6001236a.Walks
