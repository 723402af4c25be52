import Derived.Test.Qxb6600938aMore
namespace Go.Proofs.Qxb6600938a
open Go.RowKit
set_option linter.unusedVariables false
set_option linter.unusedSimpArgs false

set_option maxHeartbeats 4000000 in
theorem lawB_2 (k : Bool) (v : ByteArray) (n : Int) (p : Bool) (c : Int) (key iv : ByteArray) (inn : Int) (wv : Int) (x : ByteArray) (u : Int) (w : World) :
    Calls Try.prog 3 #[.agg #[.bool k, .string v, .int .u64 n, .bool p, .int .i64 c], .agg #[.int .i64 2, .string key, .string iv, .int .u64 inn], .int .u64 wv, .string x, .int .u64 u] w fun e w' => e = .returned (.bool true) ∧ Below w.heap.size w w' := by
  go_enter Try.func3, Try.ntmps3
  go_wp2_with fail
  refine (bytes8 k v n p c 2 key iv inn wv x u _).mono ?_
  rintro e w1 ⟨⟨b, rfl⟩, hb1⟩
  have R1 := ((regAt_new w k v n p c 24).later (one_alloc _ _)).later hb1
  have I1 := (inAt_new2 w _ 2 key iv inn 26).later hb1
  have B1 := hide (below_next (two_allocs w _ _) hb1)
  clear hb1
  cases b
  · clear R1 I1
    go_wp2_with fail
    go_ret
    exact ⟨rfl, unhide B1⟩
  obtain ⟨r0, r1, r2, r3, r4⟩ := R1.five
  obtain ⟨i0, i1, i2, i3⟩ := I1
  have I1 : InAt w1 (w.heap.size + 1) 2 key iv inn := ⟨i0, i1, i2, i3⟩
  go_wp2_with fail
  refine (tooBig_any k v n p c 2 key iv inn 0 x 0 _).mono ?_
  rintro e w2 ⟨⟨b, rfl⟩, hb2⟩
  have R2 := R1.later hb2
  have I2 := I1.later hb2
  have B2 := hide (below_next (unhide B1) hb2)
  clear hb2 R1 I1 B1 r0 r1 r2 r3 r4 i0 i1 i2 i3
  cases b
  rotate_left
  · clear R2 I2
    go_wp2_with fail
    go_ret
    exact ⟨rfl, unhide B2⟩
  obtain ⟨r0, r1, r2, r3, r4⟩ := R2.five
  obtain ⟨i0, i1, i2, i3⟩ := I2
  have I2 : InAt w2 (w.heap.size + 1) 2 key iv inn := ⟨i0, i1, i2, i3⟩
  cases k
  · go_wp2_with fail
    go_ret
    exact ⟨rfl, unhide B2⟩
  go_wp2_with fail
  refine (isWrite_2 w2).mono ?_
  rintro e w3 ⟨rfl, hw⟩
  subst w3
  clear r0 r1 r2 r3 r4 i0 i1 i2 i3
  go_wp2_with fail
  go_region_held3 (fun w' => w'.cell? ⟨w.heap.size, 0, none⟩ = some (.bool true) ∧ w'.cell? ⟨w.heap.size, 1, none⟩ = some (.string v) ∧ w'.cell? ⟨w.heap.size, 2, none⟩ = some (.int .u64 n) ∧ w'.cell? ⟨w.heap.size, 3, none⟩ = some (.bool p) ∧ w'.cell? ⟨w.heap.size, 4, none⟩ = some (.int .i64 c) ∧ w'.cell? ⟨w.heap.size + 1, 0, none⟩ = some (.int .i64 2) ∧ w'.cell? ⟨w.heap.size + 1, 1, none⟩ = some (.string key) ∧ w'.cell? ⟨w.heap.size + 1, 2, none⟩ = some (.string iv) ∧ w'.cell? ⟨w.heap.size + 1, 3, none⟩ = some (.int .u64 inn)) (first | exact reg_in R2.drew I2.drew | exact keep9 (by assumption) (by assumption))
    (first
      | (go_at_call 12; refine (toZZReg_any true v n p c _).mono ?_; rintro e w3 ⟨rfl, hb3⟩)
      | (go_at_call 13; refine (toZZIn_any 2 key iv inn _).mono ?_; rintro e w4 ⟨rfl, hb4⟩)
      | (go_at_call 14; refine (toZZOut_any 1 ByteArray.empty wv _).mono ?_; rintro e w5 ⟨rfl, hb5⟩)
      | (go_at_call 11; refine (zz_put1 v n p c key iv inn ByteArray.empty wv _).mono ?_; rintro e w6 ⟨v6, rfl, hr6, hb6⟩))
  rename_i hHeld
  clear hHeld
  have R6 := (((R2.drew.later hb3).later hb4).later hb5).later hb6
  have I6 := (((I2.drew.later hb3).later hb4).later hb5).later hb6
  have B6 := hide (below_next (below_next (below_next (below_next (unhide B2).drew hb3) hb4) hb5) hb6)
  clear R2 I2 B2 hb3 hb4 hb5 hb6
  obtain ⟨r0, r1, r2, r3, r4⟩ := R6.five
  obtain ⟨i0, i1, i2, i3⟩ := I6
  have I6 : InAt w6 (w.heap.size + 1) 2 key iv inn := ⟨i0, i1, i2, i3⟩
  by_cases h : n < wv
  rotate_left
  · have HE : putS n iv wv = [] := by simp [putS, h]
    rw [HE] at hr6
    have hv6 : v6 = .slice none 0 0 := hr6
    clear HE hr6 R6 I6
    subst hv6
    go_wp2_with fail
    refine (toZZIn_any 1 key ByteArray.empty 0 _).mono ?_
    rintro e w7 ⟨rfl, hb7⟩
    have B7 := hide (below_next (below_next (unhide B6) hb7) (one_alloc w7 (.cells #[.int .i64 1, .string key, .string ByteArray.empty, .int .u64 0] 36)))
    clear hb7 B6 r0 r1 r2 r3 r4 i0 i1 i2 i3
    go_wp2_with fail
    refine wp_loop_rounds 1 ?_
    rw [rounds_succ]
    go_wp2
    go_ret
    exact ⟨rfl, unhide B7⟩
  · have HE : putS n iv wv = [⟨true, iv, wv, false, 0⟩] := by simp [putS, h]
    rw [HE] at hr6
    have hlt : n < wv := h
    clear HE h
    obtain ⟨g6, cap6, hv6, S6⟩ := hr6
    subst hv6
    go_wp2_with fail
    refine (toZZIn_any 1 key ByteArray.empty 0 _).mono ?_
    rintro e w7 ⟨rfl, hb7⟩
    have R7 := (R6.later hb7).later (one_alloc w7 (.cells #[.int .i64 1, .string key, .string ByteArray.empty, .int .u64 0] 36))
    have I7 := (I6.later hb7).later (one_alloc w7 (.cells #[.int .i64 1, .string key, .string ByteArray.empty, .int .u64 0] 36))
    have S7 := (S6.later hb7).later (one_alloc w7 (.cells #[.int .i64 1, .string key, .string ByteArray.empty, .int .u64 0] 36))
    have P7 := (inAt_new w7 1 key ByteArray.empty 0 36).later (one_alloc _ (.cells #[.bool true, .string iv, .int .u64 wv, .bool false, .int .i64 0] 34))
    have T7 := regAt_new2 w7 (.cells #[.int .i64 1, .string key, .string ByteArray.empty, .int .u64 0] 36) true iv wv false 0 34
    have R8 := R7.later (one_alloc _ (.cells #[.bool true, .string iv, .int .u64 wv, .bool false, .int .i64 0] 34))
    have I8 := I7.later (one_alloc _ (.cells #[.bool true, .string iv, .int .u64 wv, .bool false, .int .i64 0] 34))
    have B8 := hide (below_next (below_next (below_next (unhide B6) hb7) (one_alloc w7 (.cells #[.int .i64 1, .string key, .string ByteArray.empty, .int .u64 0] 36))) (one_alloc _ (.cells #[.bool true, .string iv, .int .u64 wv, .bool false, .int .i64 0] 34)))
    clear hb7 B6 r0 r1 r2 r3 r4 i0 i1 i2 i3 R6 I6 S6
    obtain ⟨s0, s1, s2, s3, s4⟩ := S7.five
    obtain ⟨_, _, r2, _, _⟩ := R8.five
    have i2 := I8.c2
    go_wp2_with fail
    refine wp_loop_rounds 2 ?_
    rw [rounds_succ]
    go_wp2_with fail
    clear s0 s1 s2 s3 s4 r2 i2 S7 R7 I7
    go_region_held3 (fun w' => w'.cell? ⟨w7.heap.size + 1, 0, none⟩ = some (.bool true) ∧ w'.cell? ⟨w7.heap.size + 1, 1, none⟩ = some (.string iv) ∧ w'.cell? ⟨w7.heap.size + 1, 2, none⟩ = some (.int .u64 wv) ∧ w'.cell? ⟨w7.heap.size + 1, 3, none⟩ = some (.bool false) ∧ w'.cell? ⟨w7.heap.size + 1, 4, none⟩ = some (.int .i64 0) ∧ w'.cell? ⟨w7.heap.size, 0, none⟩ = some (.int .i64 1) ∧ w'.cell? ⟨w7.heap.size, 1, none⟩ = some (.string key) ∧ w'.cell? ⟨w7.heap.size, 2, none⟩ = some (.string ByteArray.empty) ∧ w'.cell? ⟨w7.heap.size, 3, none⟩ = some (.int .u64 0)) (first | exact reg_in T7.drew P7.drew | exact keep9 (by assumption) (by assumption))
      (first
        | (go_at_call 14; refine (toZZOut_any 1 x u _).mono ?_; rintro e w8 ⟨rfl, hb8⟩)
        | (go_at_call 11; refine (zz_read iv wv false 0 key ByteArray.empty 0 1 x u _).mono ?_; rintro e w9 ⟨v9, rfl, hr9, hb9⟩))
    rename_i hHeld
    clear hHeld
    have T9 := (T7.drew.later hb8).later hb9
    have I9 := (I8.drew.later hb8).later hb9
    have B9 := hide (below_next (below_next (unhide B8).drew hb8) hb9)
    clear R8 I8 T7 P7 B8 hb8 hb9
    have i2 := I9.c2
    clear I9
    by_cases hxu : x = iv ∧ u = wv
    · obtain ⟨hx, hu⟩ := hxu
      subst hu
      have hxe : (x.toList == iv.toList) = true := by rw [hx]; exact beq_self_eq_true _
      have HE : readS ⟨true, iv, u, false, 0⟩ x u = [⟨true, iv, u, false, 0⟩] := by simp [readS, atB, hx]
      rw [HE] at hr9
      clear HE hx
      obtain ⟨g9, cap9, hv9, S9⟩ := hr9
      subst hv9
      go_wp2_with fail
      go_region_held3 (fun w' => w'.cell? ⟨g9, 0, none⟩ = some (.bool true) ∧ w'.cell? ⟨g9, 1, none⟩ = some (.string iv) ∧ w'.cell? ⟨g9, 2, none⟩ = some (.int .u64 u) ∧ w'.cell? ⟨g9, 3, none⟩ = some (.bool false) ∧ w'.cell? ⟨g9, 4, none⟩ = some (.int .i64 0) ∧ w'.cell? ⟨w7.heap.size + 1, 0, none⟩ = some (.bool true) ∧ w'.cell? ⟨w7.heap.size + 1, 1, none⟩ = some (.string iv) ∧ w'.cell? ⟨w7.heap.size + 1, 2, none⟩ = some (.int .u64 u) ∧ w'.cell? ⟨w7.heap.size + 1, 3, none⟩ = some (.bool false) ∧ w'.cell? ⟨w7.heap.size + 1, 4, none⟩ = some (.int .i64 0)) (first | exact reg_reg S9.drew T9.drew | exact keep10 (by assumption) (by assumption))
        (first
          | (go_at_call 16; refine (fromZZReg_any true iv u false 0 _).mono ?_; rintro e w10 ⟨rfl, hb10⟩)
          | (go_at_call 15; refine (sameReg_same true iv u false 0 _).mono ?_; rintro e w11 ⟨rfl, hb11⟩))
      rename_i hHeld
      clear hHeld
      have B11 := hide (below_next (below_next (unhide B9).drew hb10) hb11)
      clear S9 T9 i2 hb10 hb11 B9
      go_wp2_with fail
      rw [rounds_succ]
      go_wp2
      go_ret
      exact ⟨rfl, unhide B11⟩
    · have HE : readS ⟨true, iv, wv, false, 0⟩ x u = [] := by
        simp only [readS, atB]
        rw [if_neg]
        rintro ⟨h1, h2⟩
        exact hxu ⟨h2, by simpa using h1⟩
      rw [HE] at hr9
      have hv9 : v9 = .slice none 0 0 := hr9
      clear HE hr9 T9
      subst hv9
      by_cases hx : x = iv
      · have hxe : (x.toList == iv.toList) = true := by rw [hx]; exact beq_self_eq_true _
        have hue : (u == wv) = false := by
          rw [beq_eq_false_iff_ne]
          exact fun e => hxu ⟨hx, e⟩
        clear hxu hx
        go_wp2_with fail
        rw [rounds_succ]
        go_wp2
        go_ret
        exact ⟨rfl, unhide B9⟩
      · have hxe := str_ne hx
        clear hxu hx
        go_wp2_with fail
        rw [rounds_succ]
        go_wp2
        go_ret
        exact ⟨rfl, unhide B9⟩

end Go.Proofs.Qxb6600938a
