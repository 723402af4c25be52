import Derived.Test.Qxb6600938aFrom
namespace Go.Proofs.Qxb6600938a
open Go.RowKit
set_option linter.unusedVariables false
set_option linter.unusedSimpArgs false

theorem str_ne {a b : ByteArray} (h : a ≠ b) : (a.toList == b.toList) = false := by
  rw [beq_eq_false_iff_ne]
  intro e
  rw [ByteArray.toList_eq, ByteArray.toList_eq] at e
  exact h (Go.WideShapes.bytes_inj e)

/-- What three new blocks hold in every later world. -/
structure Boxes (w : World) (A B C : Array Value) (w1 : World) : Prop where
  a : ∀ j, w1.cell? ⟨w.heap.size, j, none⟩ = A[j]?
  b : ∀ j, w1.cell? ⟨w.heap.size + 1, j, none⟩ = B[j]?
  c : ∀ j, w1.cell? ⟨w.heap.size + 1 + 1, j, none⟩ = C[j]?
  below : Below w.heap.size w w1
  size : w.heap.size + 1 + 1 < w1.heap.size

theorem boxes_start (w : World) (A B C : Array Value) (t1 t2 t3 : TypeId) : Boxes w A B C (((w.alloc (.cells A t1)).alloc (.cells B t2)).alloc (.cells C t3)) := by
  have s1 : (w.alloc (.cells A t1)).heap.size = w.heap.size + 1 := by simp
  have s2 : ((w.alloc (.cells A t1)).alloc (.cells B t2)).heap.size = w.heap.size + 1 + 1 := by simp
  have hA := heap_alloc_new w (.cells A t1)
  have hB := heap_alloc_new (w.alloc (.cells A t1)) (.cells B t2)
  have hC := heap_alloc_new ((w.alloc (.cells A t1)).alloc (.cells B t2)) (.cells C t3)
  rw [s1] at hB
  rw [s2] at hC
  have hB2 : (((w.alloc (.cells A t1)).alloc (.cells B t2)).alloc (.cells C t3)).heap[w.heap.size + 1]? = some (.cells B t2) := by
    rw [Below.heap_alloc _ _ _ (by omega)]; exact hB
  have hA2 : (((w.alloc (.cells A t1)).alloc (.cells B t2)).alloc (.cells C t3)).heap[w.heap.size]? = some (.cells A t1) := by
    rw [Below.heap_alloc _ _ _ (by omega), Below.heap_alloc _ _ _ (by omega)]; exact hA
  refine ⟨fun j => cell_of_row _ _ j _ _ _ hA2, fun j => cell_of_row _ _ j _ _ _ hB2, fun j => cell_of_row _ _ j _ _ _ hC, three_allocs _ _ _ _, ?_⟩
  simp

theorem Boxes.later {w w1 w2 : World} {A B C : Array Value} (h : Boxes w A B C w1) (hb : Below w1.heap.size w1 w2) : Boxes w A B C w2 :=
  ⟨fun j => (hb.cell (p := ⟨w.heap.size, j, none⟩) (by have := h.size; show w.heap.size < _; omega)).trans (h.a j),
   fun j => (hb.cell (p := ⟨w.heap.size + 1, j, none⟩) (by have := h.size; show w.heap.size + 1 < _; omega)).trans (h.b j),
   fun j => (hb.cell (p := ⟨w.heap.size + 1 + 1, j, none⟩) (by have := h.size; show w.heap.size + 1 + 1 < _; omega)).trans (h.c j),
   h.below.trans (hb.mono h.below.size), Nat.lt_of_lt_of_le h.size hb.size⟩

/-- Behind an answered read of a known key. -/
def readS (s : St) (ov : ByteArray) (on : Int) : List St :=
  if atB s.version s.pending on = true ∧ ov = s.value then [⟨true, s.value, on, false, 0⟩] else []

set_option maxHeartbeats 1000000 in
theorem step_read (v : ByteArray) (n : Int) (p : Bool) (c : Int) (key iv : ByteArray) (inn : Int) (oc : Int) (ov : ByteArray) (on : Int) (w : World) :
    Calls Try.prog 24 #[.agg #[.bool true, .string v, .int .u64 n, .bool p, .int .i64 c], .agg #[.int .i64 1, .string key, .string iv, .int .u64 inn], .agg #[.int .i64 oc, .string ov, .int .u64 on]] w
      fun e w' => ∃ v', e = .returned v' ∧ Regs w' v' (readS ⟨true, v, n, p, c⟩ ov on) ∧ Below w.heap.size w w' := by
  go_enter Try.func24, Try.ntmps24
  go_wp2_with fail
  refine (at_any true v n p c on _).mono ?_
  rintro e w1 ⟨rfl, hb1⟩
  have X1 := (boxes_start w _ _ _ _ _ _).later hb1
  clear hb1
  have ha := X1.a
  have hb := X1.b
  have hc := X1.c
  by_cases h : atB n p on = true
  · by_cases hv : ov = v
    · subst hv
      have HE := hide (show readS ⟨true, ov, n, p, c⟩ ov on = [⟨true, ov, on, false, 0⟩] by simp [readS, h])
      go_wp2_with fail
      refine (settled_any true ov n p c on w1).mono ?_
      rintro e w2 ⟨rfl, hb2⟩
      have X2 := X1.later hb2
      clear X1 hb2
      go_wp2
      go_ret
      exact ⟨_, rfl, by rw [unhide HE]; exact ⟨_, _, rfl, stAt_new w2 _ 48 0 ⟨true, ov, on, false, 0⟩ rfl rfl rfl rfl rfl⟩, X2.below.alloc X2.below.size _⟩
    · have hv' := str_ne hv
      have HE := hide (show readS ⟨true, v, n, p, c⟩ ov on = [] by simp [readS, hv])
      clear hv
      go_wp2_with fail
      go_ret
      exact ⟨_, rfl, by rw [unhide HE]; rfl, X1.below⟩
  · have h' : atB n p on = false := by simpa using h
    have HE := hide (show readS ⟨true, v, n, p, c⟩ ov on = [] by simp [readS, h])
    clear h
    go_wp2_with fail
    go_ret
    exact ⟨_, rfl, by rw [unhide HE]; rfl, X1.below⟩
end Go.Proofs.Qxb6600938a
