import Derived.Test.Qxb6600938aZZStep
namespace Go.Proofs.Qxb6600938a
open Go.RowKit
set_option linter.unusedVariables false
set_option linter.unusedSimpArgs false

/-- The call answered true or false. -/
def SomeBool (e : Ending) : Prop := ∃ b, e = .returned (.bool b)

theorem one_alloc (w : World) (o : Obj) : Below w.heap.size w (w.alloc o) := (Below.refl _ _).alloc (Nat.le_refl _) _

set_option maxHeartbeats 1000000 in
theorem bytes17 (k : Bool) (v : ByteArray) (n : Int) (p : Bool) (c : Int) (s1 s2 : ByteArray) (n3 : Int) (s4 : ByteArray) (n5 : Int) (w : World) :
    Calls Try.prog 17 #[.agg #[.bool k, .string v, .int .u64 n, .bool p, .int .i64 c], .string s1, .string s2, .int .u64 n3, .string s4, .int .u64 n5] w fun e w' => SomeBool e ∧ Below w.heap.size w w' := by
  go_enter Try.func17, Try.ntmps17
  go_wp2
  all_goals (go_ret; exact ⟨⟨_, rfl⟩, one_alloc _ _⟩)

set_option maxHeartbeats 1000000 in
theorem bytes8 (k : Bool) (v : ByteArray) (n : Int) (p : Bool) (c : Int) (ik : Int) (key iv : ByteArray) (inn : Int) (n2 : Int) (s3 : ByteArray) (n4 : Int) (w : World) :
    Calls Try.prog 8 #[.agg #[.bool k, .string v, .int .u64 n, .bool p, .int .i64 c], .agg #[.int .i64 ik, .string key, .string iv, .int .u64 inn], .int .u64 n2, .string s3, .int .u64 n4] w fun e w' => SomeBool e ∧ Below w.heap.size w w' := by
  go_enter Try.func8, Try.ntmps8
  go_wp2
  all_goals (go_ret; exact ⟨⟨_, rfl⟩, two_allocs _ _ _⟩)

set_option maxHeartbeats 1000000 in
theorem bytes19 (k : Bool) (v : ByteArray) (n : Int) (p : Bool) (c : Int) (ik : Int) (key iv : ByteArray) (inn : Int) (n2 : Int) (w : World) :
    Calls Try.prog 19 #[.agg #[.bool k, .string v, .int .u64 n, .bool p, .int .i64 c], .agg #[.int .i64 ik, .string key, .string iv, .int .u64 inn], .int .u64 n2] w fun e w' => SomeBool e ∧ Below w.heap.size w w' := by
  go_enter Try.func19, Try.ntmps19
  go_wp2
  all_goals (go_ret; exact ⟨⟨_, rfl⟩, two_allocs _ _ _⟩)

set_option maxHeartbeats 1000000 in
theorem tooBig_any (k : Bool) (v : ByteArray) (n : Int) (p : Bool) (c : Int) (ik : Int) (key iv : ByteArray) (inn : Int) (oc : Int) (ov : ByteArray) (on : Int) (w : World) :
    Calls Try.prog 9 #[.agg #[.bool k, .string v, .int .u64 n, .bool p, .int .i64 c], .agg #[.int .i64 ik, .string key, .string iv, .int .u64 inn], .agg #[.int .i64 oc, .string ov, .int .u64 on]] w fun e w' => SomeBool e ∧ Below w.heap.size w w' := by
  go_enter Try.func9, Try.ntmps9
  go_wp2
  all_goals (go_ret; exact ⟨⟨_, rfl⟩, three_allocs _ _ _ _⟩)

set_option maxHeartbeats 1000000 in
theorem sameReg_same (k : Bool) (v : ByteArray) (n : Int) (p : Bool) (c : Int) (w : World) :
    Calls Try.prog 15 #[.agg #[.bool k, .string v, .int .u64 n, .bool p, .int .i64 c], .agg #[.bool k, .string v, .int .u64 n, .bool p, .int .i64 c]] w fun e w' => e = .returned (.bool true) ∧ Below w.heap.size w w' := by
  go_enter Try.func15, Try.ntmps15
  go_wp2
  all_goals (go_ret; exact ⟨rfl, two_allocs _ _ _⟩)

set_option maxHeartbeats 400000 in
theorem isWrite_2 (w : World) : Calls Try.prog 10 #[.int .i64 2] w fun e w' => e = .returned (.bool true) ∧ w' = w := by
  go_enter Try.func10, Try.ntmps10
  go_wp2
  go_ret
  exact ⟨rfl, rfl⟩

set_option maxHeartbeats 400000 in
theorem isWrite_3 (w : World) : Calls Try.prog 10 #[.int .i64 3] w fun e w' => e = .returned (.bool true) ∧ w' = w := by
  go_enter Try.func10, Try.ntmps10
  go_wp2
  go_ret
  exact ⟨rfl, rfl⟩

set_option maxHeartbeats 400000 in
theorem isWrite_no (ik : Int) (w : World) (h2 : (ik == 2) = false) (h3 : (ik == 3) = false) : Calls Try.prog 10 #[.int .i64 ik] w fun e w' => e = .returned (.bool false) ∧ w' = w := by
  go_enter Try.func10, Try.ntmps10
  go_wp2
  go_ret
  exact ⟨rfl, rfl⟩

/-! ### Structs in memory -/
/-- What an operation asked, in block g. -/
structure InAt (w : World) (g : Nat) (ik : Int) (key iv : ByteArray) (inn : Int) : Prop where
  c0 : w.cell? ⟨g, 0, none⟩ = some (.int .i64 ik)
  c1 : w.cell? ⟨g, 1, none⟩ = some (.string key)
  c2 : w.cell? ⟨g, 2, none⟩ = some (.string iv)
  c3 : w.cell? ⟨g, 3, none⟩ = some (.int .u64 inn)
theorem InAt.later {w w' : World} {g : Nat} {ik : Int} {key iv : ByteArray} {inn : Int} (h : InAt w g ik key iv inn) (hb : Below w.heap.size w w') : InAt w' g ik key iv inn :=
  ⟨cell_later hb h.c0, cell_later hb h.c1, cell_later hb h.c2, cell_later hb h.c3⟩
theorem InAt.drew {w : World} {g : Nat} {ik : Int} {key iv : ByteArray} {inn : Int} (h : InAt w g ik key iv inn) : InAt w.drew g ik key iv inn := ⟨h.c0, h.c1, h.c2, h.c3⟩
theorem inAt_new (w : World) (ik : Int) (key iv : ByteArray) (inn : Int) (t : TypeId) : InAt (w.alloc (.cells #[.int .i64 ik, .string key, .string iv, .int .u64 inn] t)) w.heap.size ik key iv inn := by
  have hn : (w.alloc (.cells #[.int .i64 ik, .string key, .string iv, .int .u64 inn] t)).heap[w.heap.size]? = some (.cells #[.int .i64 ik, .string key, .string iv, .int .u64 inn] t (0, 0)) := heap_alloc_new w _
  exact ⟨by rw [cell_of_row _ _ _ _ _ _ hn]; rfl, by rw [cell_of_row _ _ _ _ _ _ hn]; rfl, by rw [cell_of_row _ _ _ _ _ _ hn]; rfl, by rw [cell_of_row _ _ _ _ _ _ hn]; rfl⟩

theorem regAt_new (w : World) (k : Bool) (v : ByteArray) (n : Int) (p : Bool) (c : Int) (t : TypeId) : StAt (w.alloc (.cells #[.bool k, .string v, .int .u64 n, .bool p, .int .i64 c] t)) w.heap.size 0 ⟨k, v, n, p, c⟩ :=
  stAt_new w _ t 0 ⟨k, v, n, p, c⟩ rfl rfl rfl rfl rfl

theorem StAt.five {w : World} {g : Nat} {k : Bool} {v : ByteArray} {n : Int} {p : Bool} {c : Int} (h : StAt w g 0 ⟨k, v, n, p, c⟩) :
    w.cell? ⟨g, 0, none⟩ = some (.bool k) ∧ w.cell? ⟨g, 1, none⟩ = some (.string v) ∧ w.cell? ⟨g, 2, none⟩ = some (.int .u64 n) ∧ w.cell? ⟨g, 3, none⟩ = some (.bool p) ∧ w.cell? ⟨g, 4, none⟩ = some (.int .i64 c) :=
  ⟨h.c0, h.c1, h.c2, h.c3, h.c4⟩

theorem reg_in {w : World} {g g' : Nat} {k : Bool} {v : ByteArray} {n : Int} {p : Bool} {c : Int} {ik : Int} {key iv : ByteArray} {inn : Int} (h : StAt w g 0 ⟨k, v, n, p, c⟩) (h' : InAt w g' ik key iv inn) :
    w.cell? ⟨g, 0, none⟩ = some (.bool k) ∧ w.cell? ⟨g, 1, none⟩ = some (.string v) ∧ w.cell? ⟨g, 2, none⟩ = some (.int .u64 n) ∧ w.cell? ⟨g, 3, none⟩ = some (.bool p) ∧ w.cell? ⟨g, 4, none⟩ = some (.int .i64 c) ∧
    w.cell? ⟨g', 0, none⟩ = some (.int .i64 ik) ∧ w.cell? ⟨g', 1, none⟩ = some (.string key) ∧ w.cell? ⟨g', 2, none⟩ = some (.string iv) ∧ w.cell? ⟨g', 3, none⟩ = some (.int .u64 inn) :=
  ⟨h.c0, h.c1, h.c2, h.c3, h.c4, h'.c0, h'.c1, h'.c2, h'.c3⟩

theorem keep9 {W w' : World} {a0 a1 a2 a3 a4 a5 a6 a7 a8 : Addr} {v0 v1 v2 v3 v4 v5 v6 v7 v8 : Value} (hb : Below W.heap.size W w') (h : W.cell? a0 = some v0 ∧ W.cell? a1 = some v1 ∧ W.cell? a2 = some v2 ∧ W.cell? a3 = some v3 ∧ W.cell? a4 = some v4 ∧ W.cell? a5 = some v5 ∧ W.cell? a6 = some v6 ∧ W.cell? a7 = some v7 ∧ W.cell? a8 = some v8) :
    w'.cell? a0 = some v0 ∧ w'.cell? a1 = some v1 ∧ w'.cell? a2 = some v2 ∧ w'.cell? a3 = some v3 ∧ w'.cell? a4 = some v4 ∧ w'.cell? a5 = some v5 ∧ w'.cell? a6 = some v6 ∧ w'.cell? a7 = some v7 ∧ w'.cell? a8 = some v8 :=
  ⟨cell_later hb h.1, cell_later hb h.2.1, cell_later hb h.2.2.1, cell_later hb h.2.2.2.1, cell_later hb h.2.2.2.2.1, cell_later hb h.2.2.2.2.2.1, cell_later hb h.2.2.2.2.2.2.1, cell_later hb h.2.2.2.2.2.2.2.1, cell_later hb h.2.2.2.2.2.2.2.2⟩

end Go.Proofs.Qxb6600938a
