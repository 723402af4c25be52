import Derived.Test.Qxb6600938aMore
import Derived.Deep.QuietTactic
import Derived.BigQuiet
namespace Go.Proofs.Qxb6600938a
open Go.RowKit
set_option linter.unusedVariables false
set_option linter.unusedSimpArgs false

theorem three_0 {w : World} {g d a : Nat} {k : Bool} {v : ByteArray} {n : Int} {p : Bool} {c : Int} {ik : Int} {key iv : ByteArray} {inn : Int} {k' : Bool} {v' : ByteArray} {n' : Int} {p' : Bool} {c' : Int}
    (h : StAt w g 0 ⟨k, v, n, p, c⟩) (h' : InAt w d ik key iv inn) (h'' : StAt w a 0 ⟨k', v', n', p', c'⟩) :
    w.cell? ⟨g, 0, none⟩ = some (.bool k) ∧ w.cell? ⟨g, 1, none⟩ = some (.string v) ∧ w.cell? ⟨g, 2, none⟩ = some (.int .u64 n) ∧ w.cell? ⟨g, 3, none⟩ = some (.bool p) ∧ w.cell? ⟨g, 4, none⟩ = some (.int .i64 c) ∧ w.cell? ⟨d, 0, none⟩ = some (.int .i64 ik) ∧ w.cell? ⟨d, 1, none⟩ = some (.string key) ∧ w.cell? ⟨d, 2, none⟩ = some (.string iv) ∧ w.cell? ⟨d, 3, none⟩ = some (.int .u64 inn) ∧ w.cell? ⟨a, 1, none⟩ = some (.string v') ∧ w.cell? ⟨a, 2, none⟩ = some (.int .u64 n') :=
  ⟨h.c0, h.c1, h.c2, h.c3, h.c4, h'.c0, h'.c1, h'.c2, h'.c3, h''.c1, h''.c2⟩
theorem three_5 {w : World} {g d a : Nat} {k : Bool} {v : ByteArray} {n : Int} {p : Bool} {c : Int} {ik : Int} {key iv : ByteArray} {inn : Int} {k' : Bool} {v' : ByteArray} {n' : Int} {p' : Bool} {c' : Int}
    (h : StAt w g 5 ⟨k, v, n, p, c⟩) (h' : InAt w d ik key iv inn) (h'' : StAt w a 0 ⟨k', v', n', p', c'⟩) :
    w.cell? ⟨g, 5, none⟩ = some (.bool k) ∧ w.cell? ⟨g, 6, none⟩ = some (.string v) ∧ w.cell? ⟨g, 7, none⟩ = some (.int .u64 n) ∧ w.cell? ⟨g, 8, none⟩ = some (.bool p) ∧ w.cell? ⟨g, 9, none⟩ = some (.int .i64 c) ∧ w.cell? ⟨d, 0, none⟩ = some (.int .i64 ik) ∧ w.cell? ⟨d, 1, none⟩ = some (.string key) ∧ w.cell? ⟨d, 2, none⟩ = some (.string iv) ∧ w.cell? ⟨d, 3, none⟩ = some (.int .u64 inn) ∧ w.cell? ⟨a, 1, none⟩ = some (.string v') ∧ w.cell? ⟨a, 2, none⟩ = some (.int .u64 n') :=
  ⟨h.c0, h.c1, h.c2, h.c3, h.c4, h'.c0, h'.c1, h'.c2, h'.c3, h''.c1, h''.c2⟩
theorem keep11 {W w' : World} {a0 a1 a2 a3 a4 a5 a6 a7 a8 a9 a10 : Addr} {v0 v1 v2 v3 v4 v5 v6 v7 v8 v9 v10 : Value} (hb : Below W.heap.size W w') (h : W.cell? a0 = some v0 ∧ W.cell? a1 = some v1 ∧ W.cell? a2 = some v2 ∧ W.cell? a3 = some v3 ∧ W.cell? a4 = some v4 ∧ W.cell? a5 = some v5 ∧ W.cell? a6 = some v6 ∧ W.cell? a7 = some v7 ∧ W.cell? a8 = some v8 ∧ W.cell? a9 = some v9 ∧ W.cell? a10 = some v10) :
    w'.cell? a0 = some v0 ∧ w'.cell? a1 = some v1 ∧ w'.cell? a2 = some v2 ∧ w'.cell? a3 = some v3 ∧ w'.cell? a4 = some v4 ∧ w'.cell? a5 = some v5 ∧ w'.cell? a6 = some v6 ∧ w'.cell? a7 = some v7 ∧ w'.cell? a8 = some v8 ∧ w'.cell? a9 = some v9 ∧ w'.cell? a10 = some v10 :=
  ⟨cell_later hb h.1, cell_later hb h.2.1, cell_later hb h.2.2.1, cell_later hb h.2.2.2.1, cell_later hb h.2.2.2.2.1, cell_later hb h.2.2.2.2.2.1, cell_later hb h.2.2.2.2.2.2.1, cell_later hb h.2.2.2.2.2.2.2.1, cell_later hb h.2.2.2.2.2.2.2.2.1, cell_later hb h.2.2.2.2.2.2.2.2.2.1, cell_later hb h.2.2.2.2.2.2.2.2.2.2⟩

theorem StAt.drewN {w : World} {g o : Nat} {s : St} (h : StAt w g o s) (m : Nat) : StAt (w.drewN m) g o s := ⟨h.c0, h.c1, h.c2, h.c3, h.c4⟩
theorem InAt.drewN {w : World} {g : Nat} {ik : Int} {key iv : ByteArray} {inn : Int} (h : InAt w g ik key iv inn) (m : Nat) : InAt (w.drewN m) g ik key iv inn := ⟨h.c0, h.c1, h.c2, h.c3⟩
theorem belowN {B : Nat} {a w : World} (h : Below B a w) (m : Nat) : Below B a (w.drewN m) := ⟨h.os, h.tape, h.output, h.size, h.block⟩

set_option maxHeartbeats 1000000 in
theorem sameReg_any (k : Bool) (v : ByteArray) (n : Int) (p : Bool) (c : Int) (k' : Bool) (v' : ByteArray) (n' : Int) (p' : Bool) (c' : Int) (w : World) :
    Calls Try.prog 15 #[.agg #[.bool k, .string v, .int .u64 n, .bool p, .int .i64 c], .agg #[.bool k', .string v', .int .u64 n', .bool p', .int .i64 c']] w fun e w' => SomeBool e ∧ Below w.heap.size w w' := by
  go_enter Try.func15, Try.ntmps15
  go_wp2
  all_goals (go_ret; exact ⟨⟨_, rfl⟩, two_allocs _ _ _⟩)
end Go.Proofs.Qxb6600938a
