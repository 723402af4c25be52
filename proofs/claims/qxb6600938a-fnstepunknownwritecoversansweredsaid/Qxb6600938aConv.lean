import Derived.Test.Qxb6600938aRows
import Derived.WalkKit
import Derived.WalkSpells
import Derived.WalkLawsBesides
namespace Go.Proofs.Qxb6600938a
open Go.RowKit
set_option linter.unusedVariables false
set_option linter.unusedSimpArgs false

theorem hide {p : Prop} (h : p) : Hid p := h
theorem unhide {p : Prop} (h : Hid p) : p := h

theorem two_allocs (w : World) (o o' : Obj) : Below w.heap.size w ((w.alloc o).alloc o') :=
  ((Below.refl _ _).alloc (Nat.le_refl _) _).alloc (by simp) _
theorem three_allocs (w : World) (o o' o'' : Obj) : Below w.heap.size w (((w.alloc o).alloc o').alloc o'') :=
  (two_allocs w o o').alloc (by simp; omega) _

set_option maxHeartbeats 400000 in
theorem toZZReg_any (k : Bool) (v : ByteArray) (n : Int) (p : Bool) (c : Int) (w : World) :
    Calls Try.prog 12 #[.agg #[.bool k, .string v, .int .u64 n, .bool p, .int .i64 c]] w fun e w' => e = .returned (.agg #[.bool k, .string v, .int .u64 n, .bool p, .int .i64 c]) ∧ Below w.heap.size w w' := by
  go_enter Try.func12, Try.ntmps12
  go_wp2
  exact bodyPost_ret (v := .agg #[.bool k, .string v, .int .u64 n, .bool p, .int .i64 c]) (by simp [results, Try.results12, go_sem]) rfl ⟨rfl, two_allocs _ _ _⟩

set_option maxHeartbeats 400000 in
theorem toZZIn_any (k : Int) (key v : ByteArray) (n : Int) (w : World) :
    Calls Try.prog 13 #[.agg #[.int .i64 k, .string key, .string v, .int .u64 n]] w fun e w' => e = .returned (.agg #[.int .i64 k, .string key, .string v, .int .u64 n]) ∧ Below w.heap.size w w' := by
  go_enter Try.func13, Try.ntmps13
  go_wp2
  exact bodyPost_ret (v := .agg #[.int .i64 k, .string key, .string v, .int .u64 n]) (by simp [results, Try.results13, go_sem]) rfl ⟨rfl, two_allocs _ _ _⟩

set_option maxHeartbeats 400000 in
theorem toZZOut_any (o : Int) (v : ByteArray) (n : Int) (w : World) :
    Calls Try.prog 14 #[.agg #[.int .i64 o, .string v, .int .u64 n]] w fun e w' => e = .returned (.agg #[.int .i64 o, .string v, .int .u64 n]) ∧ Below w.heap.size w w' := by
  go_enter Try.func14, Try.ntmps14
  go_wp2
  exact bodyPost_ret (v := .agg #[.int .i64 o, .string v, .int .u64 n]) (by simp [results, Try.results14, go_sem]) rfl ⟨rfl, two_allocs _ _ _⟩

set_option maxHeartbeats 400000 in
theorem fromZZReg_any (k : Bool) (v : ByteArray) (n : Int) (p : Bool) (c : Int) (w : World) :
    Calls Try.prog 16 #[.agg #[.bool k, .string v, .int .u64 n, .bool p, .int .i64 c]] w fun e w' => e = .returned (.agg #[.bool k, .string v, .int .u64 n, .bool p, .int .i64 c]) ∧ Below w.heap.size w w' := by
  go_enter Try.func16, Try.ntmps16
  go_wp2
  exact bodyPost_ret (v := .agg #[.bool k, .string v, .int .u64 n, .bool p, .int .i64 c]) (by simp [results, Try.results16, go_sem]) rfl ⟨rfl, two_allocs _ _ _⟩

set_option maxHeartbeats 400000 in
theorem toRegister_any (k : Bool) (v : ByteArray) (n : Int) (p : Bool) (c : Int) (w : World) :
    Calls Try.prog 23 #[.agg #[.bool k, .string v, .int .u64 n, .bool p, .int .i64 c]] w fun e w' => e = .returned (.agg #[.bool k, .string v, .int .u64 n, .bool p, .int .i64 c]) ∧ Below w.heap.size w w' := by
  go_enter Try.func23, Try.ntmps23
  go_wp2
  exact bodyPost_ret (v := .agg #[.bool k, .string v, .int .u64 n, .bool p, .int .i64 c]) (by simp [results, Try.results23, go_sem]) rfl ⟨rfl, two_allocs _ _ _⟩

set_option maxHeartbeats 400000 in
theorem toInput_any (k : Int) (key v : ByteArray) (n : Int) (w : World) :
    Calls Try.prog 25 #[.agg #[.int .i64 k, .string key, .string v, .int .u64 n]] w fun e w' => e = .returned (.agg #[.int .i64 k, .string key, .string v, .int .u64 n]) ∧ Below w.heap.size w w' := by
  go_enter Try.func25, Try.ntmps25
  go_wp2
  exact bodyPost_ret (v := .agg #[.int .i64 k, .string key, .string v, .int .u64 n]) (by simp [results, Try.results25, go_sem]) rfl ⟨rfl, two_allocs _ _ _⟩

set_option maxHeartbeats 400000 in
theorem toOutput_any (o : Int) (v : ByteArray) (n : Int) (w : World) :
    Calls Try.prog 26 #[.agg #[.int .i64 o, .string v, .int .u64 n]] w fun e w' => e = .returned (.agg #[.int .i64 o, .string v, .int .u64 n]) ∧ Below w.heap.size w w' := by
  go_enter Try.func26, Try.ntmps26
  go_wp2
  exact bodyPost_ret (v := .agg #[.int .i64 o, .string v, .int .u64 n]) (by simp [results, Try.results26, go_sem]) rfl ⟨rfl, two_allocs _ _ _⟩

set_option maxHeartbeats 400000 in
theorem settled_any (k : Bool) (v : ByteArray) (n : Int) (p : Bool) (c : Int) (u : Int) (w : World) :
    Calls Try.prog 29 #[.agg #[.bool k, .string v, .int .u64 n, .bool p, .int .i64 c], .int .u64 u] w fun e w' => e = .returned (.agg #[.bool true, .string v, .int .u64 u, .bool false, .int .i64 0]) ∧ Below w.heap.size w w' := by
  go_enter Try.func29, Try.ntmps29
  go_wp2
  exact bodyPost_ret (v := .agg #[.bool true, .string v, .int .u64 u, .bool false, .int .i64 0]) (by simp [results, Try.results29, go_sem]) rfl ⟨rfl, two_allocs _ _ _⟩

/-- May the key be at version u? -/
def atB (n : Int) (p : Bool) (u : Int) : Bool := if p then decide (n < u) else (u == n)

set_option maxHeartbeats 400000 in
theorem at_any (k : Bool) (v : ByteArray) (n : Int) (p : Bool) (c : Int) (u : Int) (w : World) :
    Calls Try.prog 28 #[.agg #[.bool k, .string v, .int .u64 n, .bool p, .int .i64 c], .int .u64 u] w fun e w' => e = .returned (.bool (atB n p u)) ∧ Below w.heap.size w w' := by
  cases p
  · go_enter Try.func28, Try.ntmps28
    go_wp2
    go_ret
    exact ⟨rfl, (Below.refl _ _).alloc (Nat.le_refl _) _⟩
  · go_enter Try.func28, Try.ntmps28
    go_wp2
    go_ret
    exact ⟨rfl, (Below.refl _ _).alloc (Nat.le_refl _) _⟩
end Go.Proofs.Qxb6600938a
