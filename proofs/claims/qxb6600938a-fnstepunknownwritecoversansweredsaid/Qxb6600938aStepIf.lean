import Derived.Test.Qxb6600938aStep
namespace Go.Proofs.Qxb6600938a
open Go.RowKit
set_option linter.unusedVariables false
set_option linter.unusedSimpArgs false

theorem size3 (w : World) (a b c : Obj) : (((w.alloc a).alloc b).alloc c).heap.size = w.heap.size + 1 + 1 + 1 := by simp

theorem stAt_new4 (w : World) (a b c : Obj) (cs : Array Value) (t : TypeId) (o : Nat) (s : St) (h0 : cs[o]? = some (.bool s.known)) (h1 : cs[o + 1]? = some (.string s.value)) (h2 : cs[o + 2]? = some (.int .u64 s.version)) (h3 : cs[o + 3]? = some (.bool s.pending)) (h4 : cs[o + 4]? = some (.int .i64 s.reported)) :
    StAt ((((w.alloc a).alloc b).alloc c).alloc (.cells cs t)) (w.heap.size + 1 + 1 + 1) o s := by
  have := stAt_new (((w.alloc a).alloc b).alloc c) cs t o s h0 h1 h2 h3 h4
  rwa [size3] at this

/-! ### Plain puts -/
set_option maxHeartbeats 1000000 in
theorem step_put4 (v : ByteArray) (n : Int) (p : Bool) (c : Int) (key iv : ByteArray) (inn : Int) (ov : ByteArray) (on : Int) (w : World) :
    Calls Try.prog 24 #[.agg #[.bool true, .string v, .int .u64 n, .bool p, .int .i64 c], .agg #[.int .i64 2, .string key, .string iv, .int .u64 inn], .agg #[.int .i64 4, .string ov, .int .u64 on]] w
      fun e w' => ∃ v', e = .returned v' ∧ Regs w' v' [⟨true, iv, n, true, 0⟩] ∧ Below w.heap.size w w' := by
  go_enter Try.func24, Try.ntmps24
  go_wp2_with fail
  go_ret
  exact ⟨_, rfl, ⟨_, _, rfl, stAt_new4 w _ _ _ _ 48 0 ⟨true, iv, n, true, 0⟩ rfl rfl rfl rfl rfl⟩, (three_allocs _ _ _ _).alloc (three_allocs _ _ _ _).size _⟩

/-- Behind an answered put. -/
def putS (n : Int) (iv : ByteArray) (on : Int) : List St := if n < on then [⟨true, iv, on, false, 0⟩] else []

set_option maxHeartbeats 1000000 in
theorem step_put1 (v : ByteArray) (n : Int) (p : Bool) (c : Int) (key iv : ByteArray) (inn : Int) (ov : ByteArray) (on : Int) (w : World) :
    Calls Try.prog 24 #[.agg #[.bool true, .string v, .int .u64 n, .bool p, .int .i64 c], .agg #[.int .i64 2, .string key, .string iv, .int .u64 inn], .agg #[.int .i64 1, .string ov, .int .u64 on]] w
      fun e w' => ∃ v', e = .returned v' ∧ Regs w' v' (putS n iv on) ∧ Below w.heap.size w w' := by
  by_cases h : n < on
  · have HE := hide (show putS n iv on = [⟨true, iv, on, false, 0⟩] by simp [putS, h])
    go_enter Try.func24, Try.ntmps24
    go_wp2_with fail
    go_ret
    exact ⟨_, rfl, by rw [unhide HE]; exact ⟨_, _, rfl, stAt_new4 w _ _ _ _ 48 0 ⟨true, iv, on, false, 0⟩ rfl rfl rfl rfl rfl⟩, (three_allocs _ _ _ _).alloc (three_allocs _ _ _ _).size _⟩
  · have HE := hide (show putS n iv on = [] by simp [putS, h])
    go_enter Try.func24, Try.ntmps24
    go_wp2_with fail
    go_ret
    exact ⟨_, rfl, by rw [unhide HE]; rfl, three_allocs _ _ _ _⟩

/-! ### Conditional puts -/
/-- Behind an answered conditional put. -/
def if1S (n : Int) (p : Bool) (iv : ByteArray) (inn on : Int) : List St := if atB n p inn = true ∧ inn < on then [⟨true, iv, on, false, 0⟩] else []

set_option maxHeartbeats 1000000 in
theorem stepIf1 (v : ByteArray) (n : Int) (p : Bool) (c : Int) (k : Int) (key iv : ByteArray) (inn : Int) (ov : ByteArray) (on : Int) (w : World) :
    Calls Try.prog 27 #[.agg #[.bool true, .string v, .int .u64 n, .bool p, .int .i64 c], .agg #[.int .i64 k, .string key, .string iv, .int .u64 inn], .agg #[.int .i64 1, .string ov, .int .u64 on]] w
      fun e w' => ∃ v', e = .returned v' ∧ Regs w' v' (if1S n p iv inn on) ∧ Below w.heap.size w w' := by
  go_enter Try.func27, Try.ntmps27
  go_wp2_with fail
  refine (at_any true v n p c inn _).mono ?_
  rintro e w1 ⟨rfl, hb1⟩
  have X1 := (boxes_start w _ _ _ _ _ _).later hb1
  clear hb1
  have ha := X1.a
  have hb := X1.b
  have hc := X1.c
  by_cases h : atB n p inn = true
  · by_cases hv : inn < on
    · have HE := hide (show if1S n p iv inn on = [⟨true, iv, on, false, 0⟩] by simp [if1S, h, hv])
      go_wp2_with fail
      go_ret
      exact ⟨_, rfl, by rw [unhide HE]; exact ⟨_, _, rfl, stAt_new w1 _ 48 0 ⟨true, iv, on, false, 0⟩ rfl rfl rfl rfl rfl⟩, X1.below.alloc X1.below.size _⟩
    · have HE := hide (show if1S n p iv inn on = [] by simp [if1S, hv])
      go_wp2_with fail
      go_ret
      exact ⟨_, rfl, by rw [unhide HE]; rfl, X1.below⟩
  · have h' : atB n p inn = false := by simpa using h
    have HE := hide (show if1S n p iv inn on = [] by simp [if1S, h])
    clear h
    go_wp2_with fail
    go_ret
    exact ⟨_, rfl, by rw [unhide HE]; rfl, X1.below⟩

/-- Behind a conditional put of unknown outcome. -/
def if4S (s : St) (iv : ByteArray) (inn : Int) : List St := if atB s.version s.pending inn = true then [s, ⟨true, iv, inn, true, 0⟩] else [s]

theorem Try.info48 : (Try.prog.info? 48).map (fun i => (i.zero, i.size, i.bytes)) = some (some (.agg #[.bool false, .string ByteArray.empty, .int .u64 0, .bool false, .int .i64 0]), 5, 48) := by kernel_rfl

/-- The cells of a state. -/
abbrev St.cells (s : St) : List Value := [.bool s.known, .string s.value, .int .u64 s.version, .bool s.pending, .int .i64 s.reported]

theorem own_two {w : World} {B : Nat} {v : Value} {s t : St} (h : w.ownsRow B 48 5 v (1 + 1) (s.cells ++ t.cells)) : Regs w v [s, t] := by
  rcases h.2 with ⟨_, h0⟩ | ⟨g, cap, cur, hv, _⟩
  · omega
  · subst hv
    exact ⟨g, cap, rfl, ⟨h.cellAt 0 (by omega), h.cellAt 1 (by omega), h.cellAt 2 (by omega), h.cellAt 3 (by omega), h.cellAt 4 (by omega)⟩,
      ⟨h.cellAt 5 (by omega), h.cellAt 6 (by omega), h.cellAt 7 (by omega), h.cellAt 8 (by omega), h.cellAt 9 (by omega)⟩⟩

/-- The cells of a state that lies in block g, as the append wants them. -/
theorem StAt.cellsAt {w : World} {g : Nat} {s : St} (h : StAt w g 0 s) : ∀ j u, s.cells[j]? = some u → w.cell? ((⟨g, 0, none⟩ : Addr).add j) = some u := by
  intro j u hu
  rw [Go.WideShapes.add_plain]
  match j, hu with
  | 0, hu => simp at hu; subst hu; exact h.c0
  | 1, hu => simp at hu; subst hu; exact h.c1
  | 2, hu => simp at hu; subst hu; exact h.c2
  | 3, hu => simp at hu; subst hu; exact h.c3
  | 4, hu => simp at hu; subst hu; exact h.c4
  | j + 5, hu => simp at hu

theorem St.cells_one (s : St) : ∀ u ∈ s.cells, u.oneCell' = true := by
  intro u hu
  simp at hu
  rcases hu with rfl | rfl | rfl | rfl | rfl <;> rfl

set_option maxHeartbeats 1000000 in
theorem stepIf4 (v : ByteArray) (n : Int) (p : Bool) (c : Int) (k : Int) (key iv : ByteArray) (inn : Int) (ov : ByteArray) (on : Int) (w : World) :
    Calls Try.prog 27 #[.agg #[.bool true, .string v, .int .u64 n, .bool p, .int .i64 c], .agg #[.int .i64 k, .string key, .string iv, .int .u64 inn], .agg #[.int .i64 4, .string ov, .int .u64 on]] w
      fun e w' => ∃ v', e = .returned v' ∧ Regs w' v' (if4S ⟨true, v, n, p, c⟩ iv inn) ∧ Below w.heap.size w w' := by
  obtain ⟨i0, hi, hz0, hz1, hz2⟩ := info_parts Try.info48
  go_enter Try.func27, Try.ntmps27
  go_wp2_with fail
  refine (at_any true v n p c inn _).mono ?_
  rintro e w1 ⟨rfl, hb1⟩
  have X1 := ((boxes_start w _ _ _ _ _ _).later ((Below.refl _ _).alloc (Nat.le_refl _) _)).later hb1
  have Y1 := (stAt_new4 w _ _ _ _ 48 0 ⟨true, v, n, p, c⟩ rfl rfl rfl rfl rfl).later hb1
  clear hb1
  have ha := X1.a
  have hb := X1.b
  have hc := X1.c
  by_cases h : atB n p inn = true
  · have HE := hide (show if4S ⟨true, v, n, p, c⟩ iv inn = [⟨true, v, n, p, c⟩, ⟨true, iv, inn, true, 0⟩] by simp [if4S, h])
    have Y2 := Y1.later ((Below.refl w1.heap.size w1).alloc (Nat.le_refl _) (.cells #[.bool true, .string iv, .int .u64 inn, .bool true, .int .i64 0] 48))
    have Z2 := stAt_new w1 #[.bool true, .string iv, .int .u64 inn, .bool true, .int .i64 0] 48 0 ⟨true, iv, inn, true, 0⟩ rfl rfl rfl rfl rfl
    have HX := hide X1
    have HY := hide Y2
    have HZ := hide Z2
    clear X1 Y1 Y2 Z2
    go_wp2_with (at_builtin; refine wpList_append_grows _ rfl (.tmp 55) (.tmp 61) 46 rfl 48 i0 (.agg #[.bool false, .string ByteArray.empty, .int .u64 0, .bool false, .int .i64 0]) 5 48 Try.underlying46 hi hz0 hz1 hz2 rfl (by decide) (some ⟨w.heap.size + 1 + 1 + 1, 0, none⟩) 1 1 (St.cells ⟨true, v, n, p, c⟩) rfl (by simp) rfl (fun b hb => by simp at hb; subst hb; exact (unhide HY).cellsAt) ⟨w1.heap.size, 0, none⟩ 1 1 (St.cells ⟨true, iv, inn, true, 0⟩) rfl rfl (unhide HZ).cellsAt (St.cells_one _) (by decide) (by decide) (by decide) ?_; intro v' w2 hown hgrow)
    have hsz := (unhide HX).below.size
    go_ret
    exact ⟨_, rfl, by rw [unhide HE]; exact own_two hown, ((unhide HX).below.alloc hsz _).grown hgrow (by simp; omega) (by simp)⟩
  · have h' : atB n p inn = false := by simpa using h
    have HE := hide (show if4S ⟨true, v, n, p, c⟩ iv inn = [⟨true, v, n, p, c⟩] by simp [if4S, h])
    clear h
    have HX := hide X1
    have HY := hide Y1
    clear X1 Y1
    go_wp2_with fail
    go_ret
    exact ⟨_, rfl, by rw [unhide HE]; exact ⟨_, _, rfl, unhide HY⟩, (unhide HX).below⟩

set_option maxHeartbeats 1000000 in
theorem step_if1 (v : ByteArray) (n : Int) (p : Bool) (c : Int) (key iv : ByteArray) (inn : Int) (ov : ByteArray) (on : Int) (w : World) :
    Calls Try.prog 24 #[.agg #[.bool true, .string v, .int .u64 n, .bool p, .int .i64 c], .agg #[.int .i64 3, .string key, .string iv, .int .u64 inn], .agg #[.int .i64 1, .string ov, .int .u64 on]] w
      fun e w' => ∃ v', e = .returned v' ∧ Regs w' v' (if1S n p iv inn on) ∧ Below w.heap.size w w' := by
  go_enter Try.func24, Try.ntmps24
  go_wp2_with fail
  refine (stepIf1 v n p c 3 key iv inn ov on _).mono ?_
  rintro e w1 ⟨v', rfl, hr, hb⟩
  have HR := hide hr
  have HB := hide ((three_allocs _ _ _ _).trans (hb.mono (three_allocs _ _ _ _).size))
  clear hr hb
  go_wp2_with fail
  go_ret
  exact ⟨_, rfl, unhide HR, unhide HB⟩

set_option maxHeartbeats 1000000 in
theorem step_if4 (v : ByteArray) (n : Int) (p : Bool) (c : Int) (key iv : ByteArray) (inn : Int) (ov : ByteArray) (on : Int) (w : World) :
    Calls Try.prog 24 #[.agg #[.bool true, .string v, .int .u64 n, .bool p, .int .i64 c], .agg #[.int .i64 3, .string key, .string iv, .int .u64 inn], .agg #[.int .i64 4, .string ov, .int .u64 on]] w
      fun e w' => ∃ v', e = .returned v' ∧ Regs w' v' (if4S ⟨true, v, n, p, c⟩ iv inn) ∧ Below w.heap.size w w' := by
  go_enter Try.func24, Try.ntmps24
  go_wp2_with fail
  refine (stepIf4 v n p c 3 key iv inn ov on _).mono ?_
  rintro e w1 ⟨v', rfl, hr, hb⟩
  have HR := hide hr
  have HB := hide ((three_allocs _ _ _ _).trans (hb.mono (three_allocs _ _ _ _).size))
  clear hr hb
  go_wp2_with fail
  go_ret
  exact ⟨_, rfl, unhide HR, unhide HB⟩
end Go.Proofs.Qxb6600938a
