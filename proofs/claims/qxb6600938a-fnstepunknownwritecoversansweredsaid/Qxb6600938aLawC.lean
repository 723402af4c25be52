import Derived.Test.Qxb6600938aLawC2
import Derived.Test.Qxb6600938aLawC3
namespace Go.Proofs.Qxb6600938a
open Go.RowKit
set_option linter.unusedVariables false
set_option linter.unusedSimpArgs false

set_option maxHeartbeats 2000000 in
theorem lawC_no (k : Bool) (v : ByteArray) (n : Int) (p : Bool) (c : Int) (ik : Int) (key iv : ByteArray) (inn : Int) (wv : Int) (w : World) (h2 : (ik == 2) = false) (h3 : (ik == 3) = false) :
    Calls Try.prog 6 #[.agg #[.bool k, .string v, .int .u64 n, .bool p, .int .i64 c], .agg #[.int .i64 ik, .string key, .string iv, .int .u64 inn], .int .u64 wv] w fun e w' => e = .returned (.bool true) ∧ Below w.heap.size w w' := by
  have H2 := hide h2
  have H3 := hide h3
  clear h2 h3
  go_enter Try.func6, Try.ntmps6
  go_wp2_with fail
  refine (bytes19 k v n p c ik key iv inn wv _).mono ?_
  rintro e w1 ⟨⟨b, rfl⟩, hb1⟩
  have R1 := ((regAt_new w k v n p c 24).later (one_alloc _ _)).later hb1
  have I1 := (inAt_new2 w _ ik key iv inn 26).later hb1
  have B1 := hide (below_next (two_allocs w _ _) hb1)
  clear hb1
  cases b
  · clear R1 I1
    go_wp2_with fail
    go_ret
    exact ⟨rfl, unhide B1⟩
  obtain ⟨r0, r1, r2, r3, r4⟩ := R1.five
  obtain ⟨i0, i1, i2, i3⟩ := I1
  have I1 : InAt w1 (w.heap.size + 1) ik key iv inn := ⟨i0, i1, i2, i3⟩
  go_wp2_with fail
  refine (tooBig_any k v n p c ik key iv inn 0 ByteArray.empty 0 _).mono ?_
  rintro e w2 ⟨⟨b, rfl⟩, hb2⟩
  have R2 := R1.later hb2
  have I2 := I1.later hb2
  have B2 := hide (below_next (unhide B1) hb2)
  clear hb2 R1 I1 B1 r0 r1 r2 r3 r4 i0 i1 i2 i3
  cases b
  rotate_left
  · clear R2 I2
    go_wp2_with fail
    go_ret
    exact ⟨rfl, unhide B2⟩
  obtain ⟨r0, r1, r2, r3, r4⟩ := R2.five
  obtain ⟨i0, i1, i2, i3⟩ := I2
  cases k
  · go_wp2_with fail
    go_ret
    exact ⟨rfl, unhide B2⟩
  go_wp2_with fail
  refine (isWrite_no ik w2 (unhide H2) (unhide H3)).mono ?_
  rintro e w3 ⟨rfl, hw⟩
  subst w3
  go_wp2_with fail
  go_ret
  exact ⟨rfl, unhide B2⟩

theorem lawC_walk (k : Bool) (v : ByteArray) (n : Int) (p : Bool) (c : Int) (ik : Int) (key iv : ByteArray) (inn : Int) (wv : Int) (w : World) :
    Calls Try.prog 6 #[.agg #[.bool k, .string v, .int .u64 n, .bool p, .int .i64 c], .agg #[.int .i64 ik, .string key, .string iv, .int .u64 inn], .int .u64 wv] w fun e w' => e = .returned (.bool true) ∧ Below w.heap.size w w' := by
  by_cases h2 : ik = 2
  · subst h2
    exact lawC_2 k v n p c key iv inn wv w
  · by_cases h3 : ik = 3
    · subst h3
      exact lawC_3 k v n p c key iv inn wv w
    · exact lawC_no k v n p c ik key iv inn wv w (beq_eq_false_iff_ne.2 h2) (beq_eq_false_iff_ne.2 h3)
end Go.Proofs.Qxb6600938a
