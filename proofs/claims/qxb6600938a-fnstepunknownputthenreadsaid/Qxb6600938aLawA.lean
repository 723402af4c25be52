import Derived.Test.Qxb6600938aSmall
namespace Go.Proofs.Qxb6600938a
open Go.RowKit
set_option linter.unusedVariables false
set_option linter.unusedSimpArgs false

set_option maxHeartbeats 2000000 in
theorem lawA_walk (k : Bool) (v : ByteArray) (n : Int) (p : Bool) (c : Int) (key value : ByteArray) (ov : Int) (x : ByteArray) (u : Int) (w : World) :
    Calls Try.prog 4 #[.agg #[.bool k, .string v, .int .u64 n, .bool p, .int .i64 c], .string key, .string value, .int .u64 ov, .string x, .int .u64 u] w fun e w' => e = .returned (.bool true) ∧ Below w.heap.size w w' := by
  go_enter Try.func4, Try.ntmps4
  go_wp2_with fail
  refine (bytes17 k v n p c key value ov x u _).mono ?_
  rintro e w1 ⟨⟨b, rfl⟩, hb1⟩
  have R1 := (regAt_new w k v n p c 24).later hb1
  have B1 := hide (below_next (one_alloc w _) hb1)
  clear hb1
  cases b
  · clear R1
    go_wp2_with fail
    go_ret
    exact ⟨rfl, unhide B1⟩
  obtain ⟨r0, r1, r2, r3, r4⟩ := R1.five
  go_wp2_with fail
  refine (tooBig_any k v n p c 0 key value 0 0 x 0 _).mono ?_
  rintro e w2 ⟨⟨b, rfl⟩, hb2⟩
  have R2 := R1.later hb2
  have B2 := hide (below_next (unhide B1) hb2)
  clear hb2 R1 B1 r0 r1 r2 r3 r4
  cases b
  rotate_left
  · clear R2
    go_wp2_with fail
    go_ret
    exact ⟨rfl, unhide B2⟩
  obtain ⟨r0, r1, r2, r3, r4⟩ := R2.five
  cases k
  · go_wp2_with fail
    go_ret
    exact ⟨rfl, unhide B2⟩
  go_wp2_with fail
  refine (toZZIn_any 2 key value 0 _).mono ?_
  rintro e w3 ⟨rfl, hb3⟩
  have R3 := (R2.later hb3).later (one_alloc w3 (.cells #[.int .i64 2, .string key, .string value, .int .u64 0] 36))
  have P3 := inAt_new w3 2 key value 0 36
  have B3 := hide (below_next (below_next (unhide B2) hb3) (one_alloc w3 (.cells #[.int .i64 2, .string key, .string value, .int .u64 0] 36)))
  clear hb3 R2 B2 r0 r1 r2 r3 r4
  go_wp2_with fail
  go_region_held3 (fun w' => w'.cell? ⟨w.heap.size, 0, none⟩ = some (.bool true) ∧ w'.cell? ⟨w.heap.size, 1, none⟩ = some (.string v) ∧ w'.cell? ⟨w.heap.size, 2, none⟩ = some (.int .u64 n) ∧ w'.cell? ⟨w.heap.size, 3, none⟩ = some (.bool p) ∧ w'.cell? ⟨w.heap.size, 4, none⟩ = some (.int .i64 c) ∧ w'.cell? ⟨w3.heap.size, 0, none⟩ = some (.int .i64 2) ∧ w'.cell? ⟨w3.heap.size, 1, none⟩ = some (.string key) ∧ w'.cell? ⟨w3.heap.size, 2, none⟩ = some (.string value) ∧ w'.cell? ⟨w3.heap.size, 3, none⟩ = some (.int .u64 0)) (first | exact reg_in R3.drew P3.drew | exact keep9 (by assumption) (by assumption))
    (first
      | (go_at_call 12; refine (toZZReg_any true v n p c _).mono ?_; rintro e w4 ⟨rfl, hb4⟩)
      | (go_at_call 14; refine (toZZOut_any 4 ByteArray.empty ov _).mono ?_; rintro e w5 ⟨rfl, hb5⟩)
      | (go_at_call 11; refine (zz_put4 v n p c key value 0 ByteArray.empty ov _).mono ?_; rintro e w6 ⟨v6, rfl, hr6, hb6⟩))
  rename_i hHeld
  clear hHeld
  have R6 := ((R3.drew.later hb4).later hb5).later hb6
  have B6 := hide (below_next (below_next (below_next (unhide B3).drew hb4) hb5) hb6)
  clear R3 P3 B3 hb4 hb5 hb6
  obtain ⟨g6, cap6, hv6, S6⟩ := hr6
  subst hv6
  obtain ⟨s0, s1, s2, s3, s4⟩ := S6.five
  go_wp2_with fail
  refine (toZZIn_any 1 key ByteArray.empty 0 _).mono ?_
  rintro e w7 ⟨rfl, hb7⟩
  clear S6 s0 s1 s2 s3 s4
  have R7 := ((R6.later (one_alloc w6 _)).later hb7).later (one_alloc w7 (.cells #[.int .i64 1, .string key, .string ByteArray.empty, .int .u64 0] 36))
  have S7 := ((regAt_new w6 true value n true 0 34).later hb7).later (one_alloc w7 (.cells #[.int .i64 1, .string key, .string ByteArray.empty, .int .u64 0] 36))
  have P7 := inAt_new w7 1 key ByteArray.empty 0 36
  have B7 := hide (below_next (below_next (below_next (unhide B6) (one_alloc w6 _)) hb7) (one_alloc w7 (.cells #[.int .i64 1, .string key, .string ByteArray.empty, .int .u64 0] 36)))
  clear hb7 R6 B6
  go_wp2_with fail
  go_region_held3 (fun w' => w'.cell? ⟨w6.heap.size, 0, none⟩ = some (.bool true) ∧ w'.cell? ⟨w6.heap.size, 1, none⟩ = some (.string value) ∧ w'.cell? ⟨w6.heap.size, 2, none⟩ = some (.int .u64 n) ∧ w'.cell? ⟨w6.heap.size, 3, none⟩ = some (.bool true) ∧ w'.cell? ⟨w6.heap.size, 4, none⟩ = some (.int .i64 0) ∧ w'.cell? ⟨w7.heap.size, 0, none⟩ = some (.int .i64 1) ∧ w'.cell? ⟨w7.heap.size, 1, none⟩ = some (.string key) ∧ w'.cell? ⟨w7.heap.size, 2, none⟩ = some (.string ByteArray.empty) ∧ w'.cell? ⟨w7.heap.size, 3, none⟩ = some (.int .u64 0)) (first | exact reg_in S7.drew P7.drew | exact keep9 (by assumption) (by assumption))
    (first
      | (go_at_call 14; refine (toZZOut_any 1 x u _).mono ?_; rintro e w8 ⟨rfl, hb8⟩)
      | (go_at_call 11; refine (zz_read value n true 0 key ByteArray.empty 0 1 x u _).mono ?_; rintro e w9 ⟨v9, rfl, hr9, hb9⟩))
  rename_i hHeld
  clear hHeld
  have R9 := (R7.drew.later hb8).later hb9
  have B9 := hide (below_next (below_next (unhide B7).drew hb8) hb9)
  clear R7 S7 P7 B7 hb8 hb9
  obtain ⟨r0, r1, r2, r3, r4⟩ := R9.five
  clear R9 r0 r1 r3 r4
  by_cases hx : x = value
  · have hxe : (x.toList == value.toList) = true := by rw [hx]; exact beq_self_eq_true _
    by_cases hu : n < u
    · have HE : readS ⟨true, value, n, true, 0⟩ x u = [⟨true, value, u, false, 0⟩] := by simp [readS, atB, hx, hu]
      rw [HE] at hr9
      clear HE hx
      obtain ⟨g9, cap9, hv9, S9⟩ := hr9
      subst hv9
      obtain ⟨s0, s1, s2, s3, s4⟩ := S9.five
      clear S9
      go_wp2_with fail
      refine (sameReg_same true value u false 0 w9).mono ?_
      rintro e w10 ⟨rfl, hb10⟩
      have B10 := hide (below_next (unhide B9) hb10)
      clear hb10 s0 s1 s2 s3 s4 r2
      go_wp2
      go_ret
      exact ⟨rfl, unhide B10⟩
    · have HE : readS ⟨true, value, n, true, 0⟩ x u = [] := by simp [readS, atB, hu]
      rw [HE] at hr9
      have hv9 : v9 = .slice none 0 0 := hr9
      clear HE hx hr9
      subst hv9
      go_wp2
      go_ret
      exact ⟨rfl, unhide B9⟩
  · have hxe := str_ne hx
    have HE : readS ⟨true, value, n, true, 0⟩ x u = [] := by simp [readS, hx]
    rw [HE] at hr9
    have hv9 : v9 = .slice none 0 0 := hr9
    clear HE hx hr9
    subst hv9
    go_wp2
    go_ret
    exact ⟨rfl, unhide B9⟩
end Go.Proofs.Qxb6600938a
