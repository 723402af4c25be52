import Derived.Test.Qxb6600938aStepIf
import Derived.Deep.RegionHeld3
namespace Go.Proofs.Qxb6600938a
open Go.RowKit
set_option linter.unusedVariables false
set_option linter.unusedSimpArgs false

theorem keep12 {W w' : World} {a0 a1 a2 a3 a4 a5 a6 a7 a8 a9 a10 a11 : Addr} {v0 v1 v2 v3 v4 v5 v6 v7 v8 v9 v10 v11 : Value} (hb : Below W.heap.size W w') (h : W.cell? a0 = some v0 ∧ W.cell? a1 = some v1 ∧ W.cell? a2 = some v2 ∧ W.cell? a3 = some v3 ∧ W.cell? a4 = some v4 ∧ W.cell? a5 = some v5 ∧ W.cell? a6 = some v6 ∧ W.cell? a7 = some v7 ∧ W.cell? a8 = some v8 ∧ W.cell? a9 = some v9 ∧ W.cell? a10 = some v10 ∧ W.cell? a11 = some v11) :
    w'.cell? a0 = some v0 ∧ w'.cell? a1 = some v1 ∧ w'.cell? a2 = some v2 ∧ w'.cell? a3 = some v3 ∧ w'.cell? a4 = some v4 ∧ w'.cell? a5 = some v5 ∧ w'.cell? a6 = some v6 ∧ w'.cell? a7 = some v7 ∧ w'.cell? a8 = some v8 ∧ w'.cell? a9 = some v9 ∧ w'.cell? a10 = some v10 ∧ w'.cell? a11 = some v11 :=
  ⟨cell_later hb h.1, cell_later hb h.2.1, cell_later hb h.2.2.1, cell_later hb h.2.2.2.1, cell_later hb h.2.2.2.2.1, cell_later hb h.2.2.2.2.2.1, cell_later hb h.2.2.2.2.2.2.1, cell_later hb h.2.2.2.2.2.2.2.1, cell_later hb h.2.2.2.2.2.2.2.2.1, cell_later hb h.2.2.2.2.2.2.2.2.2.1, cell_later hb h.2.2.2.2.2.2.2.2.2.2.1, cell_later hb h.2.2.2.2.2.2.2.2.2.2.2⟩

theorem below_next {a w w' : World} (h : Below a.heap.size a w) (hb : Below w.heap.size w w') : Below a.heap.size a w' := h.trans (hb.mono h.size)
theorem Boxes.drew {w W : World} {A B C : Array Value} (X : Boxes w A B C W) : Boxes w A B C W.drew := ⟨X.a, X.b, X.c, X.below.drew, X.size⟩
theorem boxes12 {w w' : World} {k : Bool} {v : ByteArray} {n : Int} {p : Bool} {c : Int} {ik : Int} {key iv : ByteArray} {inn : Int} {oc : Int} {ov : ByteArray} {on : Int}
    (X : Boxes w #[.bool k, .string v, .int .u64 n, .bool p, .int .i64 c] #[.int .i64 ik, .string key, .string iv, .int .u64 inn] #[.int .i64 oc, .string ov, .int .u64 on] w') :
    w'.cell? ⟨w.heap.size, 0, none⟩ = some (.bool k) ∧ w'.cell? ⟨w.heap.size, 1, none⟩ = some (.string v) ∧ w'.cell? ⟨w.heap.size, 2, none⟩ = some (.int .u64 n) ∧ w'.cell? ⟨w.heap.size, 3, none⟩ = some (.bool p) ∧ w'.cell? ⟨w.heap.size, 4, none⟩ = some (.int .i64 c) ∧ w'.cell? ⟨w.heap.size + 1, 0, none⟩ = some (.int .i64 ik) ∧ w'.cell? ⟨w.heap.size + 1, 1, none⟩ = some (.string key) ∧ w'.cell? ⟨w.heap.size + 1, 2, none⟩ = some (.string iv) ∧ w'.cell? ⟨w.heap.size + 1, 3, none⟩ = some (.int .u64 inn) ∧ w'.cell? ⟨w.heap.size + 1 + 1, 0, none⟩ = some (.int .i64 oc) ∧ w'.cell? ⟨w.heap.size + 1 + 1, 1, none⟩ = some (.string ov) ∧ w'.cell? ⟨w.heap.size + 1 + 1, 2, none⟩ = some (.int .u64 on) :=
  ⟨X.a 0, X.a 1, X.a 2, X.a 3, X.a 4, X.b 0, X.b 1, X.b 2, X.b 3, X.c 0, X.c 1, X.c 2⟩

set_option maxHeartbeats 2000000 in
theorem zzStep_of (k : Bool) (v : ByteArray) (n : Int) (p : Bool) (c : Int) (ik : Int) (key iv : ByteArray) (inn : Int) (oc : Int) (ov : ByteArray) (on : Int) (sts : List St)
    (h24 : ∀ w, Calls Try.prog 24 #[.agg #[.bool k, .string v, .int .u64 n, .bool p, .int .i64 c], .agg #[.int .i64 ik, .string key, .string iv, .int .u64 inn], .agg #[.int .i64 oc, .string ov, .int .u64 on]] w fun e w' => ∃ v', e = .returned v' ∧ Regs w' v' sts ∧ Below w.heap.size w w') (w : World) :
    Calls Try.prog 11 #[.agg #[.bool k, .string v, .int .u64 n, .bool p, .int .i64 c], .agg #[.int .i64 ik, .string key, .string iv, .int .u64 inn], .agg #[.int .i64 oc, .string ov, .int .u64 on]] w fun e w' => ∃ v', e = .returned v' ∧ Regs w' v' sts ∧ Below w.heap.size w w' := by
  have H := hide h24
  clear h24
  go_enter Try.func11, Try.ntmps11
  go_wp2
  go_region_held3 (fun w' => w'.cell? ⟨w.heap.size, 0, none⟩ = some (.bool k) ∧ w'.cell? ⟨w.heap.size, 1, none⟩ = some (.string v) ∧ w'.cell? ⟨w.heap.size, 2, none⟩ = some (.int .u64 n) ∧ w'.cell? ⟨w.heap.size, 3, none⟩ = some (.bool p) ∧ w'.cell? ⟨w.heap.size, 4, none⟩ = some (.int .i64 c) ∧ w'.cell? ⟨w.heap.size + 1, 0, none⟩ = some (.int .i64 ik) ∧ w'.cell? ⟨w.heap.size + 1, 1, none⟩ = some (.string key) ∧ w'.cell? ⟨w.heap.size + 1, 2, none⟩ = some (.string iv) ∧ w'.cell? ⟨w.heap.size + 1, 3, none⟩ = some (.int .u64 inn) ∧ w'.cell? ⟨w.heap.size + 1 + 1, 0, none⟩ = some (.int .i64 oc) ∧ w'.cell? ⟨w.heap.size + 1 + 1, 1, none⟩ = some (.string ov) ∧ w'.cell? ⟨w.heap.size + 1 + 1, 2, none⟩ = some (.int .u64 on)) (first | exact boxes12 (boxes_start w _ _ _ _ _ _).drew | exact keep12 (by assumption) (by assumption))
    (first
      | (go_at_call 23; refine (toRegister_any k v n p c _).mono ?_; rintro e w1 ⟨rfl, hb1⟩)
      | (go_at_call 25; refine (toInput_any ik key iv inn _).mono ?_; rintro e w2 ⟨rfl, hb2⟩)
      | (go_at_call 26; refine (toOutput_any oc ov on _).mono ?_; rintro e w3 ⟨rfl, hb3⟩)
      | (go_at_call 24; refine (unhide H _).mono ?_; rintro e w4 ⟨v4, rfl, hr4, hb4⟩)
      | (go_at_call 22; refine (from_any _ _ _ (by assumption)).mono ?_; rintro e w5 ⟨v5, rfl, hr5, hb5⟩))
  have HB := hide (below_next (below_next (below_next (below_next (below_next (three_allocs w _ _ _).drew hb1) hb2) hb3) hb4) hb5)
  have HR := hide hr5
  clear hb1 hb2 hb3 hb4 hb5 hr4 hr5
  go_wp2
  go_ret
  exact ⟨_, rfl, unhide HR, unhide HB⟩

/-! ### ZZStep, case by case -/
theorem zz_read (v : ByteArray) (n : Int) (p : Bool) (c : Int) (key iv : ByteArray) (inn : Int) (oc : Int) (ov : ByteArray) (on : Int) (w : World) :
    Calls Try.prog 11 #[.agg #[.bool true, .string v, .int .u64 n, .bool p, .int .i64 c], .agg #[.int .i64 1, .string key, .string iv, .int .u64 inn], .agg #[.int .i64 oc, .string ov, .int .u64 on]] w
      fun e w' => ∃ v', e = .returned v' ∧ Regs w' v' (readS ⟨true, v, n, p, c⟩ ov on) ∧ Below w.heap.size w w' :=
  zzStep_of true v n p c 1 key iv inn oc ov on _ (fun w => step_read v n p c key iv inn oc ov on w) w

theorem zz_put4 (v : ByteArray) (n : Int) (p : Bool) (c : Int) (key iv : ByteArray) (inn : Int) (ov : ByteArray) (on : Int) (w : World) :
    Calls Try.prog 11 #[.agg #[.bool true, .string v, .int .u64 n, .bool p, .int .i64 c], .agg #[.int .i64 2, .string key, .string iv, .int .u64 inn], .agg #[.int .i64 4, .string ov, .int .u64 on]] w
      fun e w' => ∃ v', e = .returned v' ∧ Regs w' v' [⟨true, iv, n, true, 0⟩] ∧ Below w.heap.size w w' :=
  zzStep_of true v n p c 2 key iv inn 4 ov on _ (fun w => step_put4 v n p c key iv inn ov on w) w

theorem zz_put1 (v : ByteArray) (n : Int) (p : Bool) (c : Int) (key iv : ByteArray) (inn : Int) (ov : ByteArray) (on : Int) (w : World) :
    Calls Try.prog 11 #[.agg #[.bool true, .string v, .int .u64 n, .bool p, .int .i64 c], .agg #[.int .i64 2, .string key, .string iv, .int .u64 inn], .agg #[.int .i64 1, .string ov, .int .u64 on]] w
      fun e w' => ∃ v', e = .returned v' ∧ Regs w' v' (putS n iv on) ∧ Below w.heap.size w w' :=
  zzStep_of true v n p c 2 key iv inn 1 ov on _ (fun w => step_put1 v n p c key iv inn ov on w) w

theorem zz_if1 (v : ByteArray) (n : Int) (p : Bool) (c : Int) (key iv : ByteArray) (inn : Int) (ov : ByteArray) (on : Int) (w : World) :
    Calls Try.prog 11 #[.agg #[.bool true, .string v, .int .u64 n, .bool p, .int .i64 c], .agg #[.int .i64 3, .string key, .string iv, .int .u64 inn], .agg #[.int .i64 1, .string ov, .int .u64 on]] w
      fun e w' => ∃ v', e = .returned v' ∧ Regs w' v' (if1S n p iv inn on) ∧ Below w.heap.size w w' :=
  zzStep_of true v n p c 3 key iv inn 1 ov on _ (fun w => step_if1 v n p c key iv inn ov on w) w

theorem zz_if4 (v : ByteArray) (n : Int) (p : Bool) (c : Int) (key iv : ByteArray) (inn : Int) (ov : ByteArray) (on : Int) (w : World) :
    Calls Try.prog 11 #[.agg #[.bool true, .string v, .int .u64 n, .bool p, .int .i64 c], .agg #[.int .i64 3, .string key, .string iv, .int .u64 inn], .agg #[.int .i64 4, .string ov, .int .u64 on]] w
      fun e w' => ∃ v', e = .returned v' ∧ Regs w' v' (if4S ⟨true, v, n, p, c⟩ iv inn) ∧ Below w.heap.size w w' :=
  zzStep_of true v n p c 3 key iv inn 4 ov on _ (fun w => step_if4 v n p c key iv inn ov on w) w
end Go.Proofs.Qxb6600938a
