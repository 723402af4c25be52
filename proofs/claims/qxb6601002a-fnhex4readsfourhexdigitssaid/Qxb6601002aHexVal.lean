import Derived.Test.Qxb6601002aFill
import Derived.WalkKit
import Derived.WalkSpells
import Derived.WalkLawsBesides
namespace Go.Proofs.Qxb6601002a
open Go.RowKit
set_option linter.unusedVariables false
set_option linter.unusedSimpArgs false

/-- The value of a hex digit of either case, or -1. -/
def hexd (c : Int) : Int :=
  if 48 ≤ c ∧ c ≤ 57 then c - 48 else if 97 ≤ c ∧ c ≤ 102 then c - 87 else if 65 ≤ c ∧ c ≤ 70 then c - 55 else -1

/-- The k-th sign of the lower table, and of the upper. -/
def dig (k : Nat) : Int := if k < 10 then 48 + (k : Int) else 87 + (k : Int)
def digU (k : Nat) : Int := if k < 10 then 48 + (k : Int) else 55 + (k : Int)

theorem ret_int {k : IntKind} {a b : Int} (h : a = b) : Ending.returned (.int k a) = .returned (.int k b) := by rw [h]

theorem hexd_dig (k : Nat) (hk : k < 16) : hexd (dig k) = (k : Int) := by
  unfold dig hexd; omega
theorem hexd_digU (k : Nat) (hk : k < 16) : hexd (digU k) = (k : Int) := by
  unfold digU hexd; omega
theorem dig_bd (k : Nat) (hk : k < 16) : 0 ≤ dig k ∧ dig k ≤ 255 := by unfold dig; omega
theorem digU_bd (k : Nat) (hk : k < 16) : 0 ≤ digU k ∧ digU k ≤ 255 := by unfold digU; omega
theorem hex_step {c : Int} {k : Nat} (hk : k < 16) (h : hexd c = -1 ∨ (k : Int) ≤ hexd c) (h1 : dig k ≠ c) (h2 : digU k ≠ c) : hexd c = -1 ∨ ((k + 1 : Nat) : Int) ≤ hexd c := by
  unfold dig at h1; unfold digU at h2; unfold hexd at *; omega
theorem hex_end {c : Int} (h : hexd c = -1 ∨ ((16 : Nat) : Int) ≤ hexd c) : hexd c = -1 := by
  unfold hexd at *; omega

theorem index_low0 (w : World) : (Instr.index 9 (.string { data := #[48, 49, 50, 51, 52, 53, 54, 55, 56, 57, 97, 98, 99, 100, 101, 102] }) (.int .i64 ((0 : Nat) : Int))).run Try.prog w = .ok (.int .u8 (dig 0)) w := by kernel_rfl
theorem index_low1 (w : World) : (Instr.index 9 (.string { data := #[48, 49, 50, 51, 52, 53, 54, 55, 56, 57, 97, 98, 99, 100, 101, 102] }) (.int .i64 ((1 : Nat) : Int))).run Try.prog w = .ok (.int .u8 (dig 1)) w := by kernel_rfl
theorem index_low2 (w : World) : (Instr.index 9 (.string { data := #[48, 49, 50, 51, 52, 53, 54, 55, 56, 57, 97, 98, 99, 100, 101, 102] }) (.int .i64 ((2 : Nat) : Int))).run Try.prog w = .ok (.int .u8 (dig 2)) w := by kernel_rfl
theorem index_low3 (w : World) : (Instr.index 9 (.string { data := #[48, 49, 50, 51, 52, 53, 54, 55, 56, 57, 97, 98, 99, 100, 101, 102] }) (.int .i64 ((3 : Nat) : Int))).run Try.prog w = .ok (.int .u8 (dig 3)) w := by kernel_rfl
theorem index_low4 (w : World) : (Instr.index 9 (.string { data := #[48, 49, 50, 51, 52, 53, 54, 55, 56, 57, 97, 98, 99, 100, 101, 102] }) (.int .i64 ((4 : Nat) : Int))).run Try.prog w = .ok (.int .u8 (dig 4)) w := by kernel_rfl
theorem index_low5 (w : World) : (Instr.index 9 (.string { data := #[48, 49, 50, 51, 52, 53, 54, 55, 56, 57, 97, 98, 99, 100, 101, 102] }) (.int .i64 ((5 : Nat) : Int))).run Try.prog w = .ok (.int .u8 (dig 5)) w := by kernel_rfl
theorem index_low6 (w : World) : (Instr.index 9 (.string { data := #[48, 49, 50, 51, 52, 53, 54, 55, 56, 57, 97, 98, 99, 100, 101, 102] }) (.int .i64 ((6 : Nat) : Int))).run Try.prog w = .ok (.int .u8 (dig 6)) w := by kernel_rfl
theorem index_low7 (w : World) : (Instr.index 9 (.string { data := #[48, 49, 50, 51, 52, 53, 54, 55, 56, 57, 97, 98, 99, 100, 101, 102] }) (.int .i64 ((7 : Nat) : Int))).run Try.prog w = .ok (.int .u8 (dig 7)) w := by kernel_rfl
theorem index_low8 (w : World) : (Instr.index 9 (.string { data := #[48, 49, 50, 51, 52, 53, 54, 55, 56, 57, 97, 98, 99, 100, 101, 102] }) (.int .i64 ((8 : Nat) : Int))).run Try.prog w = .ok (.int .u8 (dig 8)) w := by kernel_rfl
theorem index_low9 (w : World) : (Instr.index 9 (.string { data := #[48, 49, 50, 51, 52, 53, 54, 55, 56, 57, 97, 98, 99, 100, 101, 102] }) (.int .i64 ((9 : Nat) : Int))).run Try.prog w = .ok (.int .u8 (dig 9)) w := by kernel_rfl
theorem index_low10 (w : World) : (Instr.index 9 (.string { data := #[48, 49, 50, 51, 52, 53, 54, 55, 56, 57, 97, 98, 99, 100, 101, 102] }) (.int .i64 ((10 : Nat) : Int))).run Try.prog w = .ok (.int .u8 (dig 10)) w := by kernel_rfl
theorem index_low11 (w : World) : (Instr.index 9 (.string { data := #[48, 49, 50, 51, 52, 53, 54, 55, 56, 57, 97, 98, 99, 100, 101, 102] }) (.int .i64 ((11 : Nat) : Int))).run Try.prog w = .ok (.int .u8 (dig 11)) w := by kernel_rfl
theorem index_low12 (w : World) : (Instr.index 9 (.string { data := #[48, 49, 50, 51, 52, 53, 54, 55, 56, 57, 97, 98, 99, 100, 101, 102] }) (.int .i64 ((12 : Nat) : Int))).run Try.prog w = .ok (.int .u8 (dig 12)) w := by kernel_rfl
theorem index_low13 (w : World) : (Instr.index 9 (.string { data := #[48, 49, 50, 51, 52, 53, 54, 55, 56, 57, 97, 98, 99, 100, 101, 102] }) (.int .i64 ((13 : Nat) : Int))).run Try.prog w = .ok (.int .u8 (dig 13)) w := by kernel_rfl
theorem index_low14 (w : World) : (Instr.index 9 (.string { data := #[48, 49, 50, 51, 52, 53, 54, 55, 56, 57, 97, 98, 99, 100, 101, 102] }) (.int .i64 ((14 : Nat) : Int))).run Try.prog w = .ok (.int .u8 (dig 14)) w := by kernel_rfl
theorem index_low15 (w : World) : (Instr.index 9 (.string { data := #[48, 49, 50, 51, 52, 53, 54, 55, 56, 57, 97, 98, 99, 100, 101, 102] }) (.int .i64 ((15 : Nat) : Int))).run Try.prog w = .ok (.int .u8 (dig 15)) w := by kernel_rfl
theorem index_low (k : Nat) (hk : k < 16) (w : World) : (Instr.index 9 (.string { data := #[48, 49, 50, 51, 52, 53, 54, 55, 56, 57, 97, 98, 99, 100, 101, 102] }) (.int .i64 (k : Int))).run Try.prog w = .ok (.int .u8 (dig k)) w := by
  match k, hk with
  | 0, _ => exact index_low0 w
  | 1, _ => exact index_low1 w
  | 2, _ => exact index_low2 w
  | 3, _ => exact index_low3 w
  | 4, _ => exact index_low4 w
  | 5, _ => exact index_low5 w
  | 6, _ => exact index_low6 w
  | 7, _ => exact index_low7 w
  | 8, _ => exact index_low8 w
  | 9, _ => exact index_low9 w
  | 10, _ => exact index_low10 w
  | 11, _ => exact index_low11 w
  | 12, _ => exact index_low12 w
  | 13, _ => exact index_low13 w
  | 14, _ => exact index_low14 w
  | 15, _ => exact index_low15 w
  | n + 16, h => exact absurd h (by omega)

theorem index_up0 (w : World) : (Instr.index 9 (.string { data := #[48, 49, 50, 51, 52, 53, 54, 55, 56, 57, 65, 66, 67, 68, 69, 70] }) (.int .i64 ((0 : Nat) : Int))).run Try.prog w = .ok (.int .u8 (digU 0)) w := by kernel_rfl
theorem index_up1 (w : World) : (Instr.index 9 (.string { data := #[48, 49, 50, 51, 52, 53, 54, 55, 56, 57, 65, 66, 67, 68, 69, 70] }) (.int .i64 ((1 : Nat) : Int))).run Try.prog w = .ok (.int .u8 (digU 1)) w := by kernel_rfl
theorem index_up2 (w : World) : (Instr.index 9 (.string { data := #[48, 49, 50, 51, 52, 53, 54, 55, 56, 57, 65, 66, 67, 68, 69, 70] }) (.int .i64 ((2 : Nat) : Int))).run Try.prog w = .ok (.int .u8 (digU 2)) w := by kernel_rfl
theorem index_up3 (w : World) : (Instr.index 9 (.string { data := #[48, 49, 50, 51, 52, 53, 54, 55, 56, 57, 65, 66, 67, 68, 69, 70] }) (.int .i64 ((3 : Nat) : Int))).run Try.prog w = .ok (.int .u8 (digU 3)) w := by kernel_rfl
theorem index_up4 (w : World) : (Instr.index 9 (.string { data := #[48, 49, 50, 51, 52, 53, 54, 55, 56, 57, 65, 66, 67, 68, 69, 70] }) (.int .i64 ((4 : Nat) : Int))).run Try.prog w = .ok (.int .u8 (digU 4)) w := by kernel_rfl
theorem index_up5 (w : World) : (Instr.index 9 (.string { data := #[48, 49, 50, 51, 52, 53, 54, 55, 56, 57, 65, 66, 67, 68, 69, 70] }) (.int .i64 ((5 : Nat) : Int))).run Try.prog w = .ok (.int .u8 (digU 5)) w := by kernel_rfl
theorem index_up6 (w : World) : (Instr.index 9 (.string { data := #[48, 49, 50, 51, 52, 53, 54, 55, 56, 57, 65, 66, 67, 68, 69, 70] }) (.int .i64 ((6 : Nat) : Int))).run Try.prog w = .ok (.int .u8 (digU 6)) w := by kernel_rfl
theorem index_up7 (w : World) : (Instr.index 9 (.string { data := #[48, 49, 50, 51, 52, 53, 54, 55, 56, 57, 65, 66, 67, 68, 69, 70] }) (.int .i64 ((7 : Nat) : Int))).run Try.prog w = .ok (.int .u8 (digU 7)) w := by kernel_rfl
theorem index_up8 (w : World) : (Instr.index 9 (.string { data := #[48, 49, 50, 51, 52, 53, 54, 55, 56, 57, 65, 66, 67, 68, 69, 70] }) (.int .i64 ((8 : Nat) : Int))).run Try.prog w = .ok (.int .u8 (digU 8)) w := by kernel_rfl
theorem index_up9 (w : World) : (Instr.index 9 (.string { data := #[48, 49, 50, 51, 52, 53, 54, 55, 56, 57, 65, 66, 67, 68, 69, 70] }) (.int .i64 ((9 : Nat) : Int))).run Try.prog w = .ok (.int .u8 (digU 9)) w := by kernel_rfl
theorem index_up10 (w : World) : (Instr.index 9 (.string { data := #[48, 49, 50, 51, 52, 53, 54, 55, 56, 57, 65, 66, 67, 68, 69, 70] }) (.int .i64 ((10 : Nat) : Int))).run Try.prog w = .ok (.int .u8 (digU 10)) w := by kernel_rfl
theorem index_up11 (w : World) : (Instr.index 9 (.string { data := #[48, 49, 50, 51, 52, 53, 54, 55, 56, 57, 65, 66, 67, 68, 69, 70] }) (.int .i64 ((11 : Nat) : Int))).run Try.prog w = .ok (.int .u8 (digU 11)) w := by kernel_rfl
theorem index_up12 (w : World) : (Instr.index 9 (.string { data := #[48, 49, 50, 51, 52, 53, 54, 55, 56, 57, 65, 66, 67, 68, 69, 70] }) (.int .i64 ((12 : Nat) : Int))).run Try.prog w = .ok (.int .u8 (digU 12)) w := by kernel_rfl
theorem index_up13 (w : World) : (Instr.index 9 (.string { data := #[48, 49, 50, 51, 52, 53, 54, 55, 56, 57, 65, 66, 67, 68, 69, 70] }) (.int .i64 ((13 : Nat) : Int))).run Try.prog w = .ok (.int .u8 (digU 13)) w := by kernel_rfl
theorem index_up14 (w : World) : (Instr.index 9 (.string { data := #[48, 49, 50, 51, 52, 53, 54, 55, 56, 57, 65, 66, 67, 68, 69, 70] }) (.int .i64 ((14 : Nat) : Int))).run Try.prog w = .ok (.int .u8 (digU 14)) w := by kernel_rfl
theorem index_up15 (w : World) : (Instr.index 9 (.string { data := #[48, 49, 50, 51, 52, 53, 54, 55, 56, 57, 65, 66, 67, 68, 69, 70] }) (.int .i64 ((15 : Nat) : Int))).run Try.prog w = .ok (.int .u8 (digU 15)) w := by kernel_rfl
theorem index_up (k : Nat) (hk : k < 16) (w : World) : (Instr.index 9 (.string { data := #[48, 49, 50, 51, 52, 53, 54, 55, 56, 57, 65, 66, 67, 68, 69, 70] }) (.int .i64 (k : Int))).run Try.prog w = .ok (.int .u8 (digU k)) w := by
  match k, hk with
  | 0, _ => exact index_up0 w
  | 1, _ => exact index_up1 w
  | 2, _ => exact index_up2 w
  | 3, _ => exact index_up3 w
  | 4, _ => exact index_up4 w
  | 5, _ => exact index_up5 w
  | 6, _ => exact index_up6 w
  | 7, _ => exact index_up7 w
  | 8, _ => exact index_up8 w
  | 9, _ => exact index_up9 w
  | 10, _ => exact index_up10 w
  | 11, _ => exact index_up11 w
  | 12, _ => exact index_up12 w
  | 13, _ => exact index_up13 w
  | 14, _ => exact index_up14 w
  | 15, _ => exact index_up15 w
  | n + 16, h => exact absurd h (by omega)

set_option maxHeartbeats 400000 in
theorem hexVal_any (c : Int) (w : World) (h0 : 0 ≤ c) (h1 : c ≤ 255) :
    Calls Try.prog 12 #[.int .u8 c] w fun e w' => e = .returned (.int .i64 (hexd c)) ∧ w' = w := by
  go_enter Try.func12, Try.ntmps12
  go_wp2
  go_loop [3] (fun i => ∃ k : Nat, k ≤ 16 ∧ i = .int .i64 k ∧ (hexd c = -1 ∨ (k : Int) ≤ hexd c)) (fun i => 16 - (intOf i).toNat)
  case atStart => exact ⟨0, Nat.zero_le _, rfl, by unfold hexd; omega⟩
  case round =>
    obtain ⟨k, hk, rfl, hn⟩ := hrel
    have HN := hide hn
    clear hn
    by_cases hlt : k < 16
    · have hix := fun w => index_low k hlt w
      have hiu := fun w => index_up k hlt w
      go_wp2
      · have e : dig k = c := by assumption
        go_ret
        exact ⟨ret_int (by rw [← e, hexd_dig k hlt]), rfl⟩
      · have e : (dig k == c) = true ∨ (digU k == c) = true := by assumption
        go_ret
        refine ⟨ret_int ?_, rfl⟩
        rcases e with e | e
        · rw [← (show dig k = c by simpa using e), hexd_dig k hlt]
        · rw [← (show digU k = c by simpa using e), hexd_digU k hlt]
      · have e : (dig k == c) = false ∧ (digU k == c) = false := by assumption
        go_round
        case rel => exact ⟨k + 1, by omega, by go_num, hex_step hlt (unhide HN) (by simpa using e.1) (by simpa using e.2)⟩
        case measure => simp [intOf]; omega
    · obtain rfl : k = 16 := by omega
      go_wp2
      go_ret
      exact ⟨ret_int (hex_end (unhide HN)).symm, rfl⟩
end Go.Proofs.Qxb6601002a
