import Derived.Test.Qxb6600938aConv
import Derived.BigRegion
import Derived.Deep.RegionHeld3
namespace Go.Proofs.Qxb6600938a
open Go.RowKit
set_option linter.unusedVariables false
set_option linter.unusedSimpArgs false

/-- A state of one key. -/
structure St where
  known : Bool
  value : ByteArray
  version : Int
  pending : Bool
  reported : Int

/-- The value of a state: of Reg, ZZReg and register alike. -/
abbrev St.val (s : St) : Value := .agg #[.bool s.known, .string s.value, .int .u64 s.version, .bool s.pending, .int .i64 s.reported]

/-- The state s lies in block g from offset o on. -/
structure StAt (w : World) (g o : Nat) (s : St) : Prop where
  c0 : w.cell? ⟨g, o, none⟩ = some (.bool s.known)
  c1 : w.cell? ⟨g, o + 1, none⟩ = some (.string s.value)
  c2 : w.cell? ⟨g, o + 2, none⟩ = some (.int .u64 s.version)
  c3 : w.cell? ⟨g, o + 3, none⟩ = some (.bool s.pending)
  c4 : w.cell? ⟨g, o + 4, none⟩ = some (.int .i64 s.reported)

theorem StAt.later {w w' : World} {g o : Nat} {s : St} (h : StAt w g o s) (hb : Below w.heap.size w w') : StAt w' g o s :=
  ⟨cell_later hb h.c0, cell_later hb h.c1, cell_later hb h.c2, cell_later hb h.c3, cell_later hb h.c4⟩

theorem StAt.drew {w : World} {g o : Nat} {s : St} (h : StAt w g o s) : StAt w.drew g o s := ⟨h.c0, h.c1, h.c2, h.c3, h.c4⟩

theorem stAt_new (w : World) (cs : Array Value) (t : TypeId) (o : Nat) (s : St) (h0 : cs[o]? = some (.bool s.known)) (h1 : cs[o + 1]? = some (.string s.value)) (h2 : cs[o + 2]? = some (.int .u64 s.version)) (h3 : cs[o + 3]? = some (.bool s.pending)) (h4 : cs[o + 4]? = some (.int .i64 s.reported)) :
    StAt (w.alloc (.cells cs t)) w.heap.size o s := by
  have hn : (w.alloc (.cells cs t)).heap[w.heap.size]? = some (.cells cs t (0, 0)) := heap_alloc_new w _
  exact ⟨by rw [cell_of_row _ _ _ _ _ _ hn, h0], by rw [cell_of_row _ _ _ _ _ _ hn, h1], by rw [cell_of_row _ _ _ _ _ _ hn, h2], by rw [cell_of_row _ _ _ _ _ _ hn, h3], by rw [cell_of_row _ _ _ _ _ _ hn, h4]⟩

set_option maxHeartbeats 400000 in
theorem from_nil (w : World) :
    Calls Try.prog 22 #[.slice none 0 0] w fun e w' => e = .returned (.slice none 0 0) ∧ w' = w := by
  have q46 : ∀ (w : World) (a : Option Addr) (n c n' c' : Nat), (binOp .eql 46 (.slice a n c) (.slice none n' c')).run Try.prog w = .ok (.bool a.isNone) w := fun w a n c n' c' => Lib.run_eql_slice_nil w _ _ a n c n' c' Try.underlying46
  go_enter Try.func22, Try.ntmps22
  go_wp2
  go_ret
  exact ⟨rfl, rfl⟩

theorem make1 (w : World) : (Instr.makeSlice 32 (.int .i64 1) (.int .i64 1)).run Try.prog w = .ok (.slice (some ⟨w.heap.size, 0, none⟩) 1 1) (w.alloc (.cells #[.bool false, .string ByteArray.empty, .int .u64 0, .bool false, .int .i64 0] 34)) := by kernel_rfl

set_option maxHeartbeats 1000000 in
theorem from_one (g cap : Nat) (s : St) (w : World) (h : StAt w g 0 s) :
    Calls Try.prog 22 #[.slice (some ⟨g, 0, none⟩) 1 cap] w fun e w' => e = .returned (.slice (some ⟨w.heap.size, 0, none⟩) 1 1) ∧ StAt w' w.heap.size 0 s ∧ Below w.heap.size w w' := by
  have q46 : ∀ (w : World) (a : Option Addr) (n c n' c' : Nat), (binOp .eql 46 (.slice a n c) (.slice none n' c')).run Try.prog w = .ok (.bool a.isNone) w := fun w a n c n' c' => Lib.run_eql_slice_nil w _ _ a n c n' c' Try.underlying46
  have hm := fun w => make1 w
  obtain ⟨k, v, n, p, c⟩ := s
  obtain ⟨c0, c1, c2, c3, c4⟩ := h
  dsimp only at c0 c1 c2 c3 c4
  simp only [Nat.zero_add] at c1 c2 c3 c4
  go_enter Try.func22, Try.ntmps22
  go_wp2
  refine wp_loop_rounds 2 ?_
  rw [rounds_succ]
  go_wp2
  go_region_held3 (fun w' => w'.cell? ⟨g, 0, none⟩ = some (.bool k) ∧ w'.cell? ⟨g, 1, none⟩ = some (.string v) ∧ w'.cell? ⟨g, 2, none⟩ = some (.int .u64 n) ∧ w'.cell? ⟨g, 3, none⟩ = some (.bool p) ∧ w'.cell? ⟨g, 4, none⟩ = some (.int .i64 c)) (go_keep) (fail)
  go_wp2
  rw [rounds_succ]
  go_wp2
  go_ret
  exact ⟨rfl, (stAt_new w _ 34 0 ⟨k, v, n, p, c⟩ rfl rfl rfl rfl rfl).drew, ((Below.refl _ _).alloc (Nat.le_refl _) _).drew⟩

theorem make2 (w : World) : (Instr.makeSlice 32 (.int .i64 2) (.int .i64 2)).run Try.prog w = .ok (.slice (some ⟨w.heap.size, 0, none⟩) 2 2) (w.alloc (.cells #[.bool false, .string ByteArray.empty, .int .u64 0, .bool false, .int .i64 0, .bool false, .string ByteArray.empty, .int .u64 0, .bool false, .int .i64 0] 34)) := by kernel_rfl

set_option maxHeartbeats 2000000 in
theorem from_two (g cap : Nat) (s t : St) (w : World) (h : StAt w g 0 s) (h' : StAt w g 5 t) :
    Calls Try.prog 22 #[.slice (some ⟨g, 0, none⟩) 2 cap] w fun e w' => e = .returned (.slice (some ⟨w.heap.size, 0, none⟩) 2 2) ∧ (StAt w' w.heap.size 0 s ∧ StAt w' w.heap.size 5 t) ∧ Below w.heap.size w w' := by
  have q46 : ∀ (w : World) (a : Option Addr) (n c n' c' : Nat), (binOp .eql 46 (.slice a n c) (.slice none n' c')).run Try.prog w = .ok (.bool a.isNone) w := fun w a n c n' c' => Lib.run_eql_slice_nil w _ _ a n c n' c' Try.underlying46
  have hm := fun w => make2 w
  obtain ⟨k, v, n, p, c⟩ := s
  obtain ⟨k', v', n', p', c'⟩ := t
  obtain ⟨c0, c1, c2, c3, c4⟩ := h
  obtain ⟨c5, c6, c7, c8, c9⟩ := h'
  dsimp only at c0 c1 c2 c3 c4 c5 c6 c7 c8 c9
  simp only [Nat.zero_add] at c1 c2 c3 c4
  simp only [Nat.reduceAdd] at c6 c7 c8 c9
  go_enter Try.func22, Try.ntmps22
  go_wp2
  refine wp_loop_rounds 3 ?_
  rw [rounds_succ]
  go_wp2
  go_region_held3 (fun w' => w'.cell? ⟨g, 0, none⟩ = some (.bool k) ∧ w'.cell? ⟨g, 1, none⟩ = some (.string v) ∧ w'.cell? ⟨g, 2, none⟩ = some (.int .u64 n) ∧ w'.cell? ⟨g, 3, none⟩ = some (.bool p) ∧ w'.cell? ⟨g, 4, none⟩ = some (.int .i64 c)) (go_keep) (fail)
  clear c0 c1 c2 c3 c4 hm q46
  go_wp2
  rw [rounds_succ]
  go_wp2
  go_region_held3 (fun w' => w'.cell? ⟨g, 5, none⟩ = some (.bool k') ∧ w'.cell? ⟨g, 6, none⟩ = some (.string v') ∧ w'.cell? ⟨g, 7, none⟩ = some (.int .u64 n') ∧ w'.cell? ⟨g, 8, none⟩ = some (.bool p') ∧ w'.cell? ⟨g, 9, none⟩ = some (.int .i64 c')) (go_keep) (fail)
  go_wp2
  rw [rounds_succ]
  go_wp2
  go_ret
  exact ⟨rfl, ⟨(stAt_new w _ 34 0 ⟨k, v, n, p, c⟩ rfl rfl rfl rfl rfl).drew.drew, (stAt_new w _ 34 5 ⟨k', v', n', p', c'⟩ rfl rfl rfl rfl rfl).drew.drew⟩, ((Below.refl _ _).alloc (Nat.le_refl _) _).drew.drew⟩

/-- The slice value v holds the states sts (none, one or two). -/
def Regs (w : World) (v : Value) : List St → Prop
  | [] => v = .slice none 0 0
  | [s] => ∃ g cap, v = .slice (some ⟨g, 0, none⟩) 1 cap ∧ StAt w g 0 s
  | [s, t] => ∃ g cap, v = .slice (some ⟨g, 0, none⟩) 2 cap ∧ StAt w g 0 s ∧ StAt w g 5 t
  | _ => False

theorem Regs.later {w w' : World} {v : Value} {sts : List St} (h : Regs w v sts) (hb : Below w.heap.size w w') : Regs w' v sts := by
  match sts, h with
  | [], h => exact h
  | [s], ⟨g, cap, hv, hs⟩ => exact ⟨g, cap, hv, hs.later hb⟩
  | [s, t], ⟨g, cap, hv, hs, ht⟩ => exact ⟨g, cap, hv, hs.later hb, ht.later hb⟩

theorem from_any (v : Value) (sts : List St) (w : World) (h : Regs w v sts) :
    Calls Try.prog 22 #[v] w fun e w' => ∃ v', e = .returned v' ∧ Regs w' v' sts ∧ Below w.heap.size w w' := by
  match sts, h with
  | [], h =>
    have h : v = .slice none 0 0 := h
    subst h
    refine (from_nil w).mono ?_
    rintro e w' ⟨rfl, hw⟩
    subst w'
    exact ⟨_, rfl, rfl, Below.refl _ _⟩
  | [s], ⟨g, cap, hv, hs⟩ =>
    subst hv
    refine (from_one g cap s w hs).mono ?_
    rintro e w' ⟨rfl, hs', hb⟩
    exact ⟨_, rfl, ⟨_, _, rfl, hs'⟩, hb⟩
  | [s, t], ⟨g, cap, hv, hs, ht⟩ =>
    subst hv
    refine (from_two g cap s t w hs ht).mono ?_
    rintro e w' ⟨rfl, hs', hb⟩
    exact ⟨_, rfl, ⟨_, _, rfl, hs'⟩, hb⟩
end Go.Proofs.Qxb6600938a
