import Derived.Test.Qxb6600938aSmall
namespace Go.Proofs.Qxb6600938a
open Go.RowKit
set_option linter.unusedVariables false
set_option linter.unusedSimpArgs false

theorem inAt_new2 (w : World) (o : Obj) (ik : Int) (key iv : ByteArray) (inn : Int) (t : TypeId) : InAt ((w.alloc o).alloc (.cells #[.int .i64 ik, .string key, .string iv, .int .u64 inn] t)) (w.heap.size + 1) ik key iv inn := by
  have := inAt_new (w.alloc o) ik key iv inn t
  rwa [show (w.alloc o).heap.size = w.heap.size + 1 by simp] at this
theorem regAt_new2 (w : World) (o : Obj) (k : Bool) (v : ByteArray) (n : Int) (p : Bool) (c : Int) (t : TypeId) : StAt ((w.alloc o).alloc (.cells #[.bool k, .string v, .int .u64 n, .bool p, .int .i64 c] t)) (w.heap.size + 1) 0 ⟨k, v, n, p, c⟩ := by
  have := regAt_new (w.alloc o) k v n p c t
  rwa [show (w.alloc o).heap.size = w.heap.size + 1 by simp] at this
theorem reg_reg {w : World} {g g' : Nat} {k : Bool} {v : ByteArray} {n : Int} {p : Bool} {c : Int} {k' : Bool} {v' : ByteArray} {n' : Int} {p' : Bool} {c' : Int} (h : StAt w g 0 ⟨k, v, n, p, c⟩) (h' : StAt w g' 0 ⟨k', v', n', p', c'⟩) :
    w.cell? ⟨g, 0, none⟩ = some (.bool k) ∧ w.cell? ⟨g, 1, none⟩ = some (.string v) ∧ w.cell? ⟨g, 2, none⟩ = some (.int .u64 n) ∧ w.cell? ⟨g, 3, none⟩ = some (.bool p) ∧ w.cell? ⟨g, 4, none⟩ = some (.int .i64 c) ∧
    w.cell? ⟨g', 0, none⟩ = some (.bool k') ∧ w.cell? ⟨g', 1, none⟩ = some (.string v') ∧ w.cell? ⟨g', 2, none⟩ = some (.int .u64 n') ∧ w.cell? ⟨g', 3, none⟩ = some (.bool p') ∧ w.cell? ⟨g', 4, none⟩ = some (.int .i64 c') :=
  ⟨h.c0, h.c1, h.c2, h.c3, h.c4, h'.c0, h'.c1, h'.c2, h'.c3, h'.c4⟩
theorem at_lt {n : Int} {p : Bool} {a b : Int} (h : atB n p a = true) (h' : a < b) : n < b := by
  cases p
  · simp [atB] at h; omega
  · simp [atB] at h; omega

theorem keep10 {W w' : World} {a0 a1 a2 a3 a4 a5 a6 a7 a8 a9 : Addr} {v0 v1 v2 v3 v4 v5 v6 v7 v8 v9 : Value} (hb : Below W.heap.size W w') (h : W.cell? a0 = some v0 ∧ W.cell? a1 = some v1 ∧ W.cell? a2 = some v2 ∧ W.cell? a3 = some v3 ∧ W.cell? a4 = some v4 ∧ W.cell? a5 = some v5 ∧ W.cell? a6 = some v6 ∧ W.cell? a7 = some v7 ∧ W.cell? a8 = some v8 ∧ W.cell? a9 = some v9) :
    w'.cell? a0 = some v0 ∧ w'.cell? a1 = some v1 ∧ w'.cell? a2 = some v2 ∧ w'.cell? a3 = some v3 ∧ w'.cell? a4 = some v4 ∧ w'.cell? a5 = some v5 ∧ w'.cell? a6 = some v6 ∧ w'.cell? a7 = some v7 ∧ w'.cell? a8 = some v8 ∧ w'.cell? a9 = some v9 :=
  ⟨cell_later hb h.1, cell_later hb h.2.1, cell_later hb h.2.2.1, cell_later hb h.2.2.2.1, cell_later hb h.2.2.2.2.1, cell_later hb h.2.2.2.2.2.1, cell_later hb h.2.2.2.2.2.2.1, cell_later hb h.2.2.2.2.2.2.2.1, cell_later hb h.2.2.2.2.2.2.2.2.1, cell_later hb h.2.2.2.2.2.2.2.2.2⟩
end Go.Proofs.Qxb6600938a
