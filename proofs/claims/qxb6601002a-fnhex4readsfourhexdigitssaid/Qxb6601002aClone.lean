import Derived.Test.Qxb6601002aFill
import Derived.WalkKit
import Derived.WalkSpells
import Derived.WalkLawsBesides
namespace Go.Proofs.Qxb6601002a
open Go.RowKit
set_option linter.unusedVariables false
set_option linter.unusedSimpArgs false

theorem Try.info5 : (Try.prog.info? 5).map (fun i => (i.zero, i.size, i.bytes)) = some (some (.int .u8 0), 1, 1) := by kernel_rfl

def byteAt (zs : List Int) (i : Nat) : Value := .int .u8 (zs.getD i 0)

/-- The row at ⟨b, off⟩ holds the first n of zs. -/
def Bytes (w : World) (b off n : Nat) (zs : List Int) : Prop := ∀ i, i < n → w.cell? ⟨b, off + i, none⟩ = some (byteAt zs i)

set_option maxHeartbeats 400000 in
theorem clone_any (b off len cap : Nat) (zs : List Int) (w : World) (hle : len ≤ 1048576) (hc : Bytes w b off len zs) :
    Calls Try.prog 8 #[.slice (some ⟨b, off, none⟩) len cap] w fun e w' => e = .returned (.slice (some ⟨w.heap.size, 0, none⟩) len len) ∧
      Bytes w' w.heap.size 0 len zs ∧ Below w.heap.size w w' := by
  have q22 : ∀ (w : World) (a : Option Addr) (n c n' c' : Nat), (binOp .eql 22 (.slice a n c) (.slice none n' c')).run Try.prog w = .ok (.bool a.isNone) w := fun w a n c n' c' => Lib.run_eql_slice_nil w _ _ a n c n' c' Try.underlying22
  obtain ⟨i0, hi, hz0, hz1, hz2⟩ := info_parts Try.info5
  go_enter Try.func8, Try.ntmps8
  go_wp2_with (at_make; refine wpList_make_full _ rfl _ _ 22 rfl w.heap.size 5 i0 (.int .u8 0) 1 Try.underlying22 hi hz0 hz1 .i64 .i64 _ _ len rfl rfl rfl rfl (by rw [hz2]; omega) (by unfold maxLen; omega) (Nat.le_refl _) ?_; intro w1 hown hgrow)
  clear q22 hi hz0 hz1 hz2
  go_loopw [4] (fun i wr => ∃ k : Nat, k ≤ len ∧ i = .int .i64 k ∧ wr.ownsRow w.heap.size 5 1 (.slice (some ⟨w.heap.size, 0, none⟩) len len) len (filled (byteAt zs) (.int .u8 0) len k) ∧ Below w.heap.size w wr) (fun i _ => len - (intOf i).toNat)
  case atStart =>
    refine ⟨0, Nat.zero_le _, rfl, ?_, (Below.refl _ _).grown hgrow (Nat.le_refl _) (by simp)⟩
    rw [filled_zero]
    simpa [Value.cells, toList_madeCells_one] using hown
  case round =>
    obtain ⟨k, hk, rfl, hown, hb⟩ := hrel
    by_cases hlt : k < len
    · have hrd : wr.cell? ⟨b, off + k, none⟩ = some (byteAt zs k) := (cell_later hb (hc k hlt))
      have hst := fill_cell hlt hown
      have hfz := hown.frozenAt k
      have hnx := fill_step hlt hown hb
      obtain ⟨s, hs⟩ : ∃ s, byteAt zs k = .int .u8 s := ⟨_, rfl⟩
      rw [hs] at hrd hnx
      clear hown hb hgrow hc hs
      go_wp2
      go_roundw
      case rel => exact ⟨k + 1, by omega, by go_num, hnx.1, hnx.2⟩
      case measure => simp [intOf]; omega
    · have : k = len := by omega
      subst this
      go_wp2
      go_ret
      rw [filled_all] at hown
      refine ⟨rfl, fun i hi => ?_, hb⟩
      rw [Nat.zero_add]
      exact full_cell hi hown

set_option maxHeartbeats 400000 in
theorem clone_none (w : World) :
    Calls Try.prog 8 #[.slice none 0 0] w fun e w' => e = .returned (.slice none 0 0) ∧ w' = w := by
  have q22 : ∀ (w : World) (a : Option Addr) (n c n' c' : Nat), (binOp .eql 22 (.slice a n c) (.slice none n' c')).run Try.prog w = .ok (.bool a.isNone) w := fun w a n c n' c' => Lib.run_eql_slice_nil w _ _ a n c n' c' Try.underlying22
  go_enter Try.func8, Try.ntmps8
  go_wp2
  go_ret
  exact ⟨rfl, rfl⟩

set_option maxHeartbeats 400000 in
theorem clone_empty (a : Addr) (cap : Nat) (w : World) :
    Calls Try.prog 8 #[.slice (some a) 0 cap] w fun e w' => e = .returned (.slice (some ⟨w.heap.size, 0, none⟩) 0 0) ∧ Below w.heap.size w w' := by
  have q22 : ∀ (w : World) (a : Option Addr) (n c n' c' : Nat), (binOp .eql 22 (.slice a n c) (.slice none n' c')).run Try.prog w = .ok (.bool a.isNone) w := fun w a n c n' c' => Lib.run_eql_slice_nil w _ _ a n c n' c' Try.underlying22
  obtain ⟨i0, hi, hz0, hz1, hz2⟩ := info_parts Try.info5
  go_enter Try.func8, Try.ntmps8
  go_wp2_with (at_make; refine wpList_make_full _ rfl _ _ 22 rfl w.heap.size 5 i0 (.int .u8 0) 1 Try.underlying22 hi hz0 hz1 .i64 .i64 _ _ 0 rfl rfl rfl rfl (by rw [hz2]; omega) (by unfold maxLen; omega) (Nat.le_refl _) ?_; intro w1 hown hgrow)
  refine wp_loop_rounds 1 ?_
  rw [rounds_succ]
  go_wp2
  go_ret
  exact ⟨rfl, (Below.refl _ _).grown hgrow (Nat.le_refl _) (by simp)⟩
end Go.Proofs.Qxb6601002a
