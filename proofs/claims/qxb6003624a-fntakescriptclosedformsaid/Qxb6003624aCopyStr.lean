import Derived.Test.Qxb6003624aFill
import Derived.WalkKit
import Derived.WalkSpells
import Derived.WalkLawsBesides
namespace Go.Proofs.Qxb6003624a
open Go.RowKit
set_option linter.unusedVariables false
set_option linter.unusedSimpArgs false

theorem Try.info9 : (Try.prog.info? 9).map (fun i => (i.zero, i.size, i.bytes)) = some (some (.string ByteArray.empty), 1, 16) := by kernel_rfl

def strAt (ss : List ByteArray) (i : Nat) : Value := .string (ss.getD i ByteArray.empty)

set_option maxHeartbeats 400000 in
theorem copyStr_any (b off len cap : Nat) (ss : List ByteArray) (w : World) (hle : len ≤ 65536) 
    (hc : ∀ i, i < len → w.cell? ⟨b, off + i, none⟩ = some (strAt ss i)) :
    Calls Try.prog 17 #[.slice (some ⟨b, off, none⟩) len cap] w fun e w' => e = .returned (.slice (some ⟨w.heap.size, 0, none⟩) len len) ∧
      w'.ownsRow w.heap.size 9 1 (.slice (some ⟨w.heap.size, 0, none⟩) len len) len ((List.range len).map (strAt ss)) ∧ Below w.heap.size w w' := by
  have q32 : ∀ (w : World) (a : Option Addr) (n c n' c' : Nat), (binOp .eql 32 (.slice a n c) (.slice none n' c')).run Try.prog w = .ok (.bool a.isNone) w := fun w a n c n' c' => Lib.run_eql_slice_nil w _ _ a n c n' c' Try.underlying32
  obtain ⟨i0, hi, hz0, hz1, hz2⟩ := info_parts Try.info9
  go_enter Try.func17, Try.ntmps17
  go_wp2_with (at_make; refine wpList_make_full _ rfl _ _ 32 rfl w.heap.size 9 i0 (.string ByteArray.empty) 1 Try.underlying32 hi hz0 hz1 .i64 .i64 _ _ len rfl rfl rfl rfl (by rw [hz2]; omega) (by unfold maxLen; omega) (Nat.le_refl _) ?_; intro w1 hown hgrow)
  clear q32 hi hz0 hz1 hz2
  go_loopw [4] (fun i wr => ∃ k : Nat, k ≤ len ∧ i = .int .i64 k ∧ wr.ownsRow w.heap.size 9 1 (.slice (some ⟨w.heap.size, 0, none⟩) len len) len (filled (strAt ss) (.string ByteArray.empty) len k) ∧ Below w.heap.size w wr) (fun i _ => len - (intOf i).toNat)
  case atStart =>
    refine ⟨0, Nat.zero_le _, rfl, ?_, (Below.refl _ _).grown hgrow (Nat.le_refl _) (by simp)⟩
    rw [filled_zero]
    simpa [Value.cells, toList_madeCells_one] using hown
  case round =>
    obtain ⟨k, hk, rfl, hown, hb⟩ := hrel
    by_cases hlt : k < len
    · have hrd : wr.cell? ⟨b, off + k, none⟩ = some (strAt ss k) := (cell_later hb (hc k hlt))
      have hst := fill_cell hlt hown
      have hfz := hown.frozenAt k
      have hnx := fill_step hlt hown hb
      obtain ⟨s, hs⟩ : ∃ s, strAt ss k = .string s := ⟨_, rfl⟩
      rw [hs] at hrd hnx
      clear hown hb hgrow hc hs
      go_wp2
      go_roundw
      case rel => exact ⟨k + 1, by omega, by go_num, hnx.1, hnx.2⟩
      case measure => simp [intOf]; omega
    · have : k = len := by omega
      subst this
      go_wp2
      go_ret
      rw [filled_all] at hown
      exact ⟨rfl, hown, hb⟩

/-- A slice that may be nil or empty: what a walk is told of its elements. -/
def Strs (w : World) (a0 : Option Addr) (len : Nat) (ss : List ByteArray) : Prop :=
  ∀ i, i < len → ∃ b off, a0 = some ⟨b, off, none⟩ ∧ w.cell? ⟨b, off + i, none⟩ = some (strAt ss i)

set_option maxHeartbeats 400000 in
theorem copyStr_none (w : World) :
    Calls Try.prog 17 #[.slice none 0 0] w fun e w' => e = .returned (.slice none 0 0) ∧ w' = w := by
  have q32 : ∀ (w : World) (a : Option Addr) (n c n' c' : Nat), (binOp .eql 32 (.slice a n c) (.slice none n' c')).run Try.prog w = .ok (.bool a.isNone) w := fun w a n c n' c' => Lib.run_eql_slice_nil w _ _ a n c n' c' Try.underlying32
  go_enter Try.func17, Try.ntmps17
  go_wp2
  go_ret
  exact ⟨rfl, rfl⟩

set_option maxHeartbeats 400000 in
theorem copyStr_empty (a : Addr) (cap : Nat) (w : World) :
    Calls Try.prog 17 #[.slice (some a) 0 cap] w fun e w' => e = .returned (.slice (some ⟨w.heap.size, 0, none⟩) 0 0) ∧ Below w.heap.size w w' := by
  have q32 : ∀ (w : World) (a : Option Addr) (n c n' c' : Nat), (binOp .eql 32 (.slice a n c) (.slice none n' c')).run Try.prog w = .ok (.bool a.isNone) w := fun w a n c n' c' => Lib.run_eql_slice_nil w _ _ a n c n' c' Try.underlying32
  obtain ⟨i0, hi, hz0, hz1, hz2⟩ := info_parts Try.info9
  go_enter Try.func17, Try.ntmps17
  go_wp2_with (at_make; refine wpList_make_full _ rfl _ _ 32 rfl w.heap.size 9 i0 (.string ByteArray.empty) 1 Try.underlying32 hi hz0 hz1 .i64 .i64 _ _ 0 rfl rfl rfl rfl (by rw [hz2]; omega) (by unfold maxLen; omega) (Nat.le_refl _) ?_; intro w1 hown hgrow)
  refine wp_loop_rounds 1 ?_
  rw [rounds_succ]
  go_wp2
  go_ret
  exact ⟨rfl, (Below.refl _ _).grown hgrow (Nat.le_refl _) (by simp)⟩

theorem copyStr_all (a0 : Option Addr) (len cap : Nat) (ss : List ByteArray) (w : World) (hle : len ≤ 65536) (hnil : a0 = none → len = 0 ∧ cap = 0) (hc : Strs w a0 len ss) :
    Calls Try.prog 17 #[.slice a0 len cap] w fun e w' => ∃ a1, e = .returned (.slice a1 len len) ∧ (a1 = none ∨ a1 = some ⟨w.heap.size, 0, none⟩) ∧ Strs w' a1 len ss ∧ Below w.heap.size w w' := by
  cases a0 with
  | none =>
    obtain ⟨rfl, rfl⟩ := hnil rfl
    refine (copyStr_none w).mono ?_
    rintro e w' ⟨rfl, rfl⟩
    exact ⟨none, rfl, .inl rfl, fun i hi => absurd hi (by omega), Below.refl _ _⟩
  | some a =>
    by_cases h0 : len = 0
    · subst h0
      refine (copyStr_empty a cap w).mono ?_
      rintro e w' ⟨rfl, hb⟩
      exact ⟨_, rfl, .inr rfl, fun i hi => absurd hi (by omega), hb⟩
    · obtain ⟨b, off, ha, _⟩ := hc 0 (by omega)
      obtain rfl : a = ⟨b, off, none⟩ := by simpa using ha
      refine (copyStr_any b off len cap ss w hle ?_).mono ?_
      · intro i hi
        obtain ⟨b', off', ha', h⟩ := hc i hi
        simp at ha'
        obtain ⟨rfl, rfl⟩ := ha'
        exact h
      · rintro e w' ⟨rfl, hown, hb⟩
        refine ⟨_, rfl, .inr rfl, fun i hi => ⟨_, _, rfl, ?_⟩, hb⟩
        rw [Nat.zero_add]
        exact full_cell hi hown

end Go.Proofs.Qxb6003624a
