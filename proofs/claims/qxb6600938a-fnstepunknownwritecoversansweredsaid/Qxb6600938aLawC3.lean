import Derived.Test.Qxb6600938aMore2
import Derived.Deep.QuietTactic
import Derived.BigQuiet
namespace Go.Proofs.Qxb6600938a
open Go.RowKit
set_option linter.unusedVariables false
set_option linter.unusedSimpArgs false

set_option maxHeartbeats 8000000 in
theorem lawC_3 (k : Bool) (v : ByteArray) (n : Int) (p : Bool) (c : Int) (key iv : ByteArray) (inn : Int) (wv : Int) (w : World) :
    Calls Try.prog 6 #[.agg #[.bool k, .string v, .int .u64 n, .bool p, .int .i64 c], .agg #[.int .i64 3, .string key, .string iv, .int .u64 inn], .int .u64 wv] w fun e w' => e = .returned (.bool true) ∧ Below w.heap.size w w' := by
  go_enter Try.func6, Try.ntmps6
  go_wp2_with fail
  refine (bytes19 k v n p c 3 key iv inn wv _).mono ?_
  rintro e w1 ⟨⟨b, rfl⟩, hb1⟩
  have R1 := ((regAt_new w k v n p c 24).later (one_alloc _ _)).later hb1
  have I1 := (inAt_new2 w _ 3 key iv inn 26).later hb1
  have B1 := hide (below_next (two_allocs w _ _) hb1)
  clear hb1
  cases b
  · clear R1 I1
    go_wp2_with fail
    go_ret
    exact ⟨rfl, unhide B1⟩
  obtain ⟨r0, r1, r2, r3, r4⟩ := R1.five
  obtain ⟨i0, i1, i2, i3⟩ := I1
  have I1 : InAt w1 (w.heap.size + 1) 3 key iv inn := ⟨i0, i1, i2, i3⟩
  go_wp2_with fail
  refine (tooBig_any k v n p c 3 key iv inn 0 ByteArray.empty 0 _).mono ?_
  rintro e w2 ⟨⟨b, rfl⟩, hb2⟩
  have R2 := R1.later hb2
  have I2 := I1.later hb2
  have B2 := hide (below_next (unhide B1) hb2)
  clear hb2 R1 I1 B1 r0 r1 r2 r3 r4 i0 i1 i2 i3
  cases b
  rotate_left
  · clear R2 I2
    go_wp2_with fail
    go_ret
    exact ⟨rfl, unhide B2⟩
  obtain ⟨r0, r1, r2, r3, r4⟩ := R2.five
  obtain ⟨i0, i1, i2, i3⟩ := I2
  have I2 : InAt w2 (w.heap.size + 1) 3 key iv inn := ⟨i0, i1, i2, i3⟩
  cases k
  · go_wp2_with fail
    go_ret
    exact ⟨rfl, unhide B2⟩
  go_wp2_with fail
  refine (isWrite_3 w2).mono ?_
  rintro e w3 ⟨rfl, hw⟩
  subst w3
  clear r0 r1 r2 r3 r4 i0 i1 i2 i3
  go_wp2_with fail
  go_region_held3 (fun w' => w'.cell? ⟨w.heap.size, 0, none⟩ = some (.bool true) ∧ w'.cell? ⟨w.heap.size, 1, none⟩ = some (.string v) ∧ w'.cell? ⟨w.heap.size, 2, none⟩ = some (.int .u64 n) ∧ w'.cell? ⟨w.heap.size, 3, none⟩ = some (.bool p) ∧ w'.cell? ⟨w.heap.size, 4, none⟩ = some (.int .i64 c) ∧ w'.cell? ⟨w.heap.size + 1, 0, none⟩ = some (.int .i64 3) ∧ w'.cell? ⟨w.heap.size + 1, 1, none⟩ = some (.string key) ∧ w'.cell? ⟨w.heap.size + 1, 2, none⟩ = some (.string iv) ∧ w'.cell? ⟨w.heap.size + 1, 3, none⟩ = some (.int .u64 inn)) (first | exact reg_in R2.drew I2.drew | exact keep9 (by assumption) (by assumption))
    (first
      | (go_at_call 12; refine (toZZReg_any true v n p c _).mono ?_; rintro e w3 ⟨rfl, hb3⟩)
      | (go_at_call 13; refine (toZZIn_any 3 key iv inn _).mono ?_; rintro e w4 ⟨rfl, hb4⟩)
      | (go_at_call 14; refine (toZZOut_any 1 ByteArray.empty wv _).mono ?_; rintro e w5 ⟨rfl, hb5⟩)
      | (go_at_call 11; refine (zz_if1 v n p c key iv inn ByteArray.empty wv _).mono ?_; rintro e w6 ⟨v6, rfl, hr6, hb6⟩))
  rename_i hHeld
  clear hHeld
  have R6 := (((R2.drew.later hb3).later hb4).later hb5).later hb6
  have I6 := (((I2.drew.later hb3).later hb4).later hb5).later hb6
  have B6 := hide (below_next (below_next (below_next (below_next (unhide B2).drew hb3) hb4) hb5) hb6)
  have HR6 := hide hr6
  clear R2 I2 B2 hb3 hb4 hb5 hb6 hr6
  go_wp2_with fail
  go_region_held3 (fun w' => w'.cell? ⟨w.heap.size, 0, none⟩ = some (.bool true) ∧ w'.cell? ⟨w.heap.size, 1, none⟩ = some (.string v) ∧ w'.cell? ⟨w.heap.size, 2, none⟩ = some (.int .u64 n) ∧ w'.cell? ⟨w.heap.size, 3, none⟩ = some (.bool p) ∧ w'.cell? ⟨w.heap.size, 4, none⟩ = some (.int .i64 c) ∧ w'.cell? ⟨w.heap.size + 1, 0, none⟩ = some (.int .i64 3) ∧ w'.cell? ⟨w.heap.size + 1, 1, none⟩ = some (.string key) ∧ w'.cell? ⟨w.heap.size + 1, 2, none⟩ = some (.string iv) ∧ w'.cell? ⟨w.heap.size + 1, 3, none⟩ = some (.int .u64 inn)) (first | exact reg_in R6.drew I6.drew | exact keep9 (by assumption) (by assumption))
    (first
      | (go_at_call 12; refine (toZZReg_any true v n p c _).mono ?_; rintro e w7 ⟨rfl, hb7⟩)
      | (go_at_call 13; refine (toZZIn_any 3 key iv inn _).mono ?_; rintro e w8 ⟨rfl, hb8⟩)
      | (go_at_call 14; refine (toZZOut_any 4 ByteArray.empty wv _).mono ?_; rintro e w9 ⟨rfl, hb9⟩)
      | (go_at_call 11; refine (zz_if4 v n p c key iv inn ByteArray.empty wv _).mono ?_; rintro e w10 ⟨v10, rfl, hr10, hb10⟩))
  rename_i hHeld
  clear hHeld
  have L := below_next (below_next (below_next ((Below.refl w6.heap.size w6).drew.trans hb7) hb8) hb9) hb10
  have I10 := I6.later L
  have B10 := hide (below_next (unhide B6) L)
  have HR7 := hide ((unhide HR6).later L)
  clear R6 I6 B6 hb7 hb8 hb9 hb10 L HR6
  have i1 := I10.c1
  clear I10
  have D := inAt_new w10 1 key ByteArray.empty 0 26
  have BB := hide (below_next (unhide B10) (one_alloc w10 (.cells #[.int .i64 1, .string key, .string ByteArray.empty, .int .u64 0] 26)))
  clear B10
  by_cases h : atB n p inn = true ∧ inn < wv
  rotate_left
  · have HE : if1S n p iv inn wv = [] := by simp [if1S, h]
    have hr6 := unhide HR7
    rw [HE] at hr6
    have hv6 : v6 = .slice none 0 0 := hr6
    clear HE hr6 HR7
    subst hv6
    have HH := hide h
    clear h
    by_cases ha : atB n p inn = true
    · have HE : if4S ⟨true, v, n, p, c⟩ iv inn = [⟨true, v, n, p, c⟩, ⟨true, iv, inn, true, 0⟩] := by simp [if4S, ha]
      rw [HE] at hr10
      obtain ⟨g10, cap10, hv10, _⟩ := hr10
      clear HE ha
      subst hv10
      go_wp2_with fail
      refine wp_loop_rounds 1 ?_
      rw [rounds_succ]
      go_wp2
      go_ret
      exact ⟨rfl, unhide BB⟩
    · have HE : if4S ⟨true, v, n, p, c⟩ iv inn = [⟨true, v, n, p, c⟩] := by simp [if4S, ha]
      rw [HE] at hr10
      obtain ⟨g10, cap10, hv10, _⟩ := hr10
      clear HE ha
      subst hv10
      go_wp2_with fail
      refine wp_loop_rounds 1 ?_
      rw [rounds_succ]
      go_wp2
      go_ret
      exact ⟨rfl, unhide BB⟩
  have HE : if1S n p iv inn wv = [⟨true, iv, wv, false, 0⟩] := by simp [if1S, h]
  have hr6 := unhide HR7
  rw [HE] at hr6
  clear HE HR7
  obtain ⟨g6, cap6, hv6, A6⟩ := hr6
  subst hv6
  obtain ⟨ha, hlt⟩ := h
  have HE4 : if4S ⟨true, v, n, p, c⟩ iv inn = [⟨true, v, n, p, c⟩, ⟨true, iv, inn, true, 0⟩] := by simp [if4S, ha]
  rw [HE4] at hr10
  clear HE4 ha
  obtain ⟨g10, cap10, hv10, U0, U5⟩ := hr10
  subst hv10
  replace U0 := U0.later (one_alloc w10 (.cells #[.int .i64 1, .string key, .string ByteArray.empty, .int .u64 0] 26))
  replace U5 := U5.later (one_alloc w10 (.cells #[.int .i64 1, .string key, .string ByteArray.empty, .int .u64 0] 26))
  have s0 := fun o => (A6.later (one_alloc w10 o)).five.1
  have s1 := fun o => (A6.later (one_alloc w10 o)).five.2.1
  have s2 := fun o => (A6.later (one_alloc w10 o)).five.2.2.1
  have s3 := fun o => (A6.later (one_alloc w10 o)).five.2.2.2.1
  have s4 := fun o => (A6.later (one_alloc w10 o)).five.2.2.2.2
  clear A6
  go_wp2_with fail
  refine wp_loop_rounds 2 ?_
  rw [rounds_succ]
  go_wp2_with fail
  refine (fromZZReg_any true iv wv false 0 _).mono ?_
  rintro e w11 ⟨rfl, hb11⟩
  clear s0 s1 s2 s3 s4 i1
  replace U0 := (U0.later hb11).later (one_alloc w11 (.cells #[.bool true, .string iv, .int .u64 wv, .bool false, .int .i64 0] 24))
  replace U5 := (U5.later hb11).later (one_alloc w11 (.cells #[.bool true, .string iv, .int .u64 wv, .bool false, .int .i64 0] 24))
  replace D := (D.later hb11).later (one_alloc w11 (.cells #[.bool true, .string iv, .int .u64 wv, .bool false, .int .i64 0] 24))
  replace BB := hide (below_next (below_next (unhide BB) hb11) (one_alloc w11 (.cells #[.bool true, .string iv, .int .u64 wv, .bool false, .int .i64 0] 24)))
  have Aa := regAt_new w11 true iv wv false 0 24
  clear hb11
  go_wp2_with fail
  refine wp_loop_rounds 3 ?_
  rw [rounds_succ]
  go_wp2_with fail
  go_region_held3 (fun w' => w'.cell? ⟨g10, 0, none⟩ = some (.bool true) ∧ w'.cell? ⟨g10, 1, none⟩ = some (.string v) ∧ w'.cell? ⟨g10, 2, none⟩ = some (.int .u64 n) ∧ w'.cell? ⟨g10, 3, none⟩ = some (.bool p) ∧ w'.cell? ⟨g10, 4, none⟩ = some (.int .i64 c) ∧ w'.cell? ⟨w10.heap.size, 0, none⟩ = some (.int .i64 1) ∧ w'.cell? ⟨w10.heap.size, 1, none⟩ = some (.string key) ∧ w'.cell? ⟨w10.heap.size, 2, none⟩ = some (.string ByteArray.empty) ∧ w'.cell? ⟨w10.heap.size, 3, none⟩ = some (.int .u64 0) ∧ w'.cell? ⟨w11.heap.size, 1, none⟩ = some (.string iv) ∧ w'.cell? ⟨w11.heap.size, 2, none⟩ = some (.int .u64 wv)) (first | exact three_0 U0.drew D.drew Aa.drew | exact keep11 (by assumption) (by assumption))
    (first
      | (go_at_call 13; refine (toZZIn_any 1 key ByteArray.empty 0 _).mono ?_; rintro e wAx ⟨rfl, hbAx⟩)
      | (go_at_call 14; refine (toZZOut_any 1 iv wv _).mono ?_; rintro e wBx ⟨rfl, hbBx⟩)
      | (go_at_call 11; refine (zz_read v n p c key ByteArray.empty 0 1 iv wv _).mono ?_; rintro e wCx ⟨vCx, rfl, hrCx, hbCx⟩))
  rename_i hHeld
  clear hHeld
  replace D := ((D.drew.later hbAx).later hbBx).later hbCx
  replace Aa := ((Aa.drew.later hbAx).later hbBx).later hbCx
  replace BB := hide (below_next (below_next (below_next (unhide BB).drew hbAx) hbBx) hbCx)
  replace U5 := ((U5.drew.later hbAx).later hbBx).later hbCx
  clear hbAx hbBx hbCx
  clear U0
  by_cases hc : atB n p wv = true ∧ iv = v
  · have HE : readS ⟨true, v, n, p, c⟩ iv wv = [⟨true, v, wv, false, 0⟩] := by simp only [readS]; rw [if_pos hc]
    rw [HE] at hrCx
    clear HE hc
    obtain ⟨gCx, capCx, hvCx, SCx⟩ := hrCx
    subst hvCx
    go_wp2_with fail
    go_region_held3 (fun w' => w'.cell? ⟨gCx, 0, none⟩ = some (.bool true) ∧ w'.cell? ⟨gCx, 1, none⟩ = some (.string v) ∧ w'.cell? ⟨gCx, 2, none⟩ = some (.int .u64 wv) ∧ w'.cell? ⟨gCx, 3, none⟩ = some (.bool false) ∧ w'.cell? ⟨gCx, 4, none⟩ = some (.int .i64 0) ∧ w'.cell? ⟨w11.heap.size, 0, none⟩ = some (.bool true) ∧ w'.cell? ⟨w11.heap.size, 1, none⟩ = some (.string iv) ∧ w'.cell? ⟨w11.heap.size, 2, none⟩ = some (.int .u64 wv) ∧ w'.cell? ⟨w11.heap.size, 3, none⟩ = some (.bool false) ∧ w'.cell? ⟨w11.heap.size, 4, none⟩ = some (.int .i64 0)) (first | exact reg_reg SCx.drew Aa.drew | exact keep10 (by assumption) (by assumption))
      (first
        | (go_at_call 15; refine (sameReg_any true v wv false 0 true iv wv false 0 _).mono ?_; rintro e wDx ⟨⟨b, rfl⟩, hbDx⟩))
    rename_i hHeld
    clear hHeld SCx
    replace D := D.drew.later hbDx
    replace Aa := Aa.drew.later hbDx
    replace BB := hide (below_next (unhide BB).drew hbDx)
    replace U5 := U5.drew.later hbDx
    clear hbDx
    cases b
    all_goals
      go_wp2_with fail
      rw [rounds_succ]
      go_wp2_with fail
      go_region_held3 (fun w' => w'.cell? ⟨g10, 5, none⟩ = some (.bool true) ∧ w'.cell? ⟨g10, 6, none⟩ = some (.string iv) ∧ w'.cell? ⟨g10, 7, none⟩ = some (.int .u64 inn) ∧ w'.cell? ⟨g10, 8, none⟩ = some (.bool true) ∧ w'.cell? ⟨g10, 9, none⟩ = some (.int .i64 0) ∧ w'.cell? ⟨w10.heap.size, 0, none⟩ = some (.int .i64 1) ∧ w'.cell? ⟨w10.heap.size, 1, none⟩ = some (.string key) ∧ w'.cell? ⟨w10.heap.size, 2, none⟩ = some (.string ByteArray.empty) ∧ w'.cell? ⟨w10.heap.size, 3, none⟩ = some (.int .u64 0) ∧ w'.cell? ⟨w11.heap.size, 1, none⟩ = some (.string iv) ∧ w'.cell? ⟨w11.heap.size, 2, none⟩ = some (.int .u64 wv)) (first | exact three_5 U5.drew D.drew Aa.drew | exact keep11 (by assumption) (by assumption))
        (first
          | (go_at_call 13; refine (toZZIn_any 1 key ByteArray.empty 0 _).mono ?_; rintro e wAy ⟨rfl, hbAy⟩)
          | (go_at_call 14; refine (toZZOut_any 1 iv wv _).mono ?_; rintro e wBy ⟨rfl, hbBy⟩)
          | (go_at_call 11; refine (zz_read iv inn true 0 key ByteArray.empty 0 1 iv wv _).mono ?_; rintro e wCy ⟨vCy, rfl, hrCy, hbCy⟩))
      rename_i hHeld
      clear hHeld
      replace D := ((D.drew.later hbAy).later hbBy).later hbCy
      replace Aa := ((Aa.drew.later hbAy).later hbBy).later hbCy
      replace BB := hide (below_next (below_next (below_next (unhide BB).drew hbAy) hbBy) hbCy)
      clear hbAy hbBy hbCy
      have HEy : readS ⟨true, iv, inn, true, 0⟩ iv wv = [⟨true, iv, wv, false, 0⟩] := by simp [readS, atB, hlt]
      rw [HEy] at hrCy
      clear HEy U5
      obtain ⟨gCy, capCy, hvCy, SCy⟩ := hrCy
      subst hvCy
      go_wp2_with fail
      go_region_held3 (fun w' => w'.cell? ⟨gCy, 0, none⟩ = some (.bool true) ∧ w'.cell? ⟨gCy, 1, none⟩ = some (.string iv) ∧ w'.cell? ⟨gCy, 2, none⟩ = some (.int .u64 wv) ∧ w'.cell? ⟨gCy, 3, none⟩ = some (.bool false) ∧ w'.cell? ⟨gCy, 4, none⟩ = some (.int .i64 0) ∧ w'.cell? ⟨w11.heap.size, 0, none⟩ = some (.bool true) ∧ w'.cell? ⟨w11.heap.size, 1, none⟩ = some (.string iv) ∧ w'.cell? ⟨w11.heap.size, 2, none⟩ = some (.int .u64 wv) ∧ w'.cell? ⟨w11.heap.size, 3, none⟩ = some (.bool false) ∧ w'.cell? ⟨w11.heap.size, 4, none⟩ = some (.int .i64 0)) (first | exact reg_reg SCy.drew Aa.drew | exact keep10 (by assumption) (by assumption))
        (first
          | (go_at_call 15; refine (sameReg_same true iv wv false 0 _).mono ?_; rintro e wDy ⟨rfl, hbDy⟩))
      rename_i hHeld
      clear hHeld SCy
      replace D := D.drew.later hbDy
      replace Aa := Aa.drew.later hbDy
      replace BB := hide (below_next (unhide BB).drew hbDy)
      clear D Aa hbDy
      go_wp2_with fail
      rw [rounds_succ]
      go_wp2_with fail
      rw [rounds_succ]
      go_wp2
      go_ret
      exact ⟨rfl, unhide BB⟩
  · have HE : readS ⟨true, v, n, p, c⟩ iv wv = [] := by simp only [readS]; rw [if_neg hc]
    rw [HE] at hrCx
    have hvCx : vCx = .slice none 0 0 := hrCx
    clear HE hc hrCx
    subst hvCx
    go_wp2_with fail
    go_quiet (fail)
    replace D := D.drewN nq
    replace Aa := Aa.drewN nq
    replace U5 := U5.drewN nq
    replace BB := hide (belowN (unhide BB) nq)
    go_wp2_with fail
    rw [rounds_succ]
    go_wp2_with fail
    go_region_held3 (fun w' => w'.cell? ⟨g10, 5, none⟩ = some (.bool true) ∧ w'.cell? ⟨g10, 6, none⟩ = some (.string iv) ∧ w'.cell? ⟨g10, 7, none⟩ = some (.int .u64 inn) ∧ w'.cell? ⟨g10, 8, none⟩ = some (.bool true) ∧ w'.cell? ⟨g10, 9, none⟩ = some (.int .i64 0) ∧ w'.cell? ⟨w10.heap.size, 0, none⟩ = some (.int .i64 1) ∧ w'.cell? ⟨w10.heap.size, 1, none⟩ = some (.string key) ∧ w'.cell? ⟨w10.heap.size, 2, none⟩ = some (.string ByteArray.empty) ∧ w'.cell? ⟨w10.heap.size, 3, none⟩ = some (.int .u64 0) ∧ w'.cell? ⟨w11.heap.size, 1, none⟩ = some (.string iv) ∧ w'.cell? ⟨w11.heap.size, 2, none⟩ = some (.int .u64 wv)) (first | exact three_5 U5.drew D.drew Aa.drew | exact keep11 (by assumption) (by assumption))
      (first
        | (go_at_call 13; refine (toZZIn_any 1 key ByteArray.empty 0 _).mono ?_; rintro e wAy ⟨rfl, hbAy⟩)
        | (go_at_call 14; refine (toZZOut_any 1 iv wv _).mono ?_; rintro e wBy ⟨rfl, hbBy⟩)
        | (go_at_call 11; refine (zz_read iv inn true 0 key ByteArray.empty 0 1 iv wv _).mono ?_; rintro e wCy ⟨vCy, rfl, hrCy, hbCy⟩))
    rename_i hHeld
    clear hHeld
    replace D := ((D.drew.later hbAy).later hbBy).later hbCy
    replace Aa := ((Aa.drew.later hbAy).later hbBy).later hbCy
    replace BB := hide (below_next (below_next (below_next (unhide BB).drew hbAy) hbBy) hbCy)
    clear hbAy hbBy hbCy
    have HEy : readS ⟨true, iv, inn, true, 0⟩ iv wv = [⟨true, iv, wv, false, 0⟩] := by simp [readS, atB, hlt]
    rw [HEy] at hrCy
    clear HEy U5
    obtain ⟨gCy, capCy, hvCy, SCy⟩ := hrCy
    subst hvCy
    go_wp2_with fail
    go_region_held3 (fun w' => w'.cell? ⟨gCy, 0, none⟩ = some (.bool true) ∧ w'.cell? ⟨gCy, 1, none⟩ = some (.string iv) ∧ w'.cell? ⟨gCy, 2, none⟩ = some (.int .u64 wv) ∧ w'.cell? ⟨gCy, 3, none⟩ = some (.bool false) ∧ w'.cell? ⟨gCy, 4, none⟩ = some (.int .i64 0) ∧ w'.cell? ⟨w11.heap.size, 0, none⟩ = some (.bool true) ∧ w'.cell? ⟨w11.heap.size, 1, none⟩ = some (.string iv) ∧ w'.cell? ⟨w11.heap.size, 2, none⟩ = some (.int .u64 wv) ∧ w'.cell? ⟨w11.heap.size, 3, none⟩ = some (.bool false) ∧ w'.cell? ⟨w11.heap.size, 4, none⟩ = some (.int .i64 0)) (first | exact reg_reg SCy.drew Aa.drew | exact keep10 (by assumption) (by assumption))
      (first
        | (go_at_call 15; refine (sameReg_same true iv wv false 0 _).mono ?_; rintro e wDy ⟨rfl, hbDy⟩))
    rename_i hHeld
    clear hHeld SCy
    replace D := D.drew.later hbDy
    replace Aa := Aa.drew.later hbDy
    replace BB := hide (below_next (unhide BB).drew hbDy)
    clear D Aa hbDy
    go_wp2_with fail
    rw [rounds_succ]
    go_wp2_with fail
    rw [rounds_succ]
    go_wp2
    go_ret
    exact ⟨rfl, unhide BB⟩

end Go.Proofs.Qxb6600938a
